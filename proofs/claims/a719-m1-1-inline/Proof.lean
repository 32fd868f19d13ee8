import JvmDerived
import JvmDerived.Pilot.@@N@@Statement
import JvmDerived.Pilot.@@N@@Code
set_option linter.unusedVariables false
set_option linter.unusedSimpArgs false
@@BLOCK:TracedD.lean.txt@@
set_option maxRecDepth 65536
set_option maxHeartbeats 40000000
namespace Jvm.Own
open Jvm Jvm.ClassFile Sem Op Lib Jvm.Free Jvm.Stand Jvm.LawKit Jvm.RoadKit Bundle
abbrev Cx : Type := Program × Launch × Env × State × MethodId × Array Value × List Frame × Method × Code
abbrev Cx.p (C : Cx) : Program := C.1
abbrev Cx.l (C : Cx) : Launch := C.2.1
abbrev Cx.e (C : Cx) : Env := C.2.2.1
abbrev Cx.s (C : Cx) : State := C.2.2.2.1
abbrev Cx.m (C : Cx) : MethodId := C.2.2.2.2.1
abbrev Cx.args (C : Cx) : Array Value := C.2.2.2.2.2.1
abbrev Cx.below (C : Cx) : List Frame := C.2.2.2.2.2.2.1
abbrev Cx.meth (C : Cx) : Method := C.2.2.2.2.2.2.2.1
abbrev Cx.c (C : Cx) : Code := C.2.2.2.2.2.2.2.2
abbrev Ins (b : ByteArray) (pc : Nat) (i : Instr) (len pc' : Nat) : Prop := decode b pc = .ok (i, len) ∧ pc + len = pc'
def Jmp (pc : Nat) (o : Int) (pc' : Nat) : Prop := 0 ≤ (pc : Int) + o ∧ ((pc : Int) + o).toNat = pc'
def EndQ (q : Bool) (s : State) (o : Outcome) (t : State) (L : List Loc) (k n : Nat) : Prop := ReturnedEndW s o t L k n ∧ (q = true → FrameEnd s o t L k n)
def On (C : Cx) (R : Room) (own : String) (b : ByteArray) (ml : Nat) (rt : Option FieldType) (nm : String) (q : Bool) (Z : State) (a0 : Array Value) (EL : List (String × Nat)) (n0 : Nat) (vm : Vm) (T : State) (h : Heap) (k n : Nat) : Prop :=
  (∃ (k0 : Nat) (locs : List Loc), Stand C.p C.l C.e R (C.s.setVm vm) C.m C.args C.below C.meth C.c T locs k n ∧ Fr n0 locs ∧ C.s.Since vm k0 ∧ k0 ≤ h.size) ∧ T.heap = h ∧ C.p.tables.exec = Jvm.exec ∧ C.c.code = b ∧ C.c.maxLocals = ml ∧ C.meth.sig.returnType = rt ∧ C.meth.name = nm ∧ C.meth.locks = false ∧
    Z.Warmed39 vm ∧ vm.findClass own = some C.m.cls ∧ EW Z a0 EL ∧ CHr Z EL C.s.vm C.s.heap vm h ∧ (q = true → C.s.WarmedH vm) ∧ Old Z n0 h
def Go (C : Cx) (R : Room) (q : Bool) (Z : State) (EL : List (String × Nat)) (n0 : Nat) (Q : Option Value → Heap → (Addr → Prop) → Prop) (T : State) (pc : Nat) (Ls : Array Slot) (st : List Value) : Prop :=
  ∃ s₂ o, Steps C.p.tables C.e C.below (T.setTop (mkF C.m pc Ls st)) s₂ ∧ s₂.status = .running ∧ Ended s₂ C.below o ∧ ∃ v L, o = .returned v ∧ (Q v s₂.heap (Safe Z EL s₂.vm s₂.heap) ∧ Fr n0 L ∧ Old Z n0 s₂.heap) ∧ CHr Z EL C.s.vm C.s.heap s₂.vm s₂.heap ∧ EndQ q C.s o s₂ L R.cells R.slots
section Laws
variable {C : Cx} {R : Room} {own : String} {b : ByteArray} {ml : Nat} {rt : Option FieldType} {nm : String} {q : Bool} {Z : State} {a0 : Array Value} {EL : List (String × Nat)} {n0 : Nat} {vm : Vm} {T : State} {h : Heap} {k n : Nat} {Q : Option Value → Heap → (Addr → Prop) → Prop} {pc pc' pt : Nat} {Ls Ls' : Array Slot} {st : List Value}
theorem Go.of {T' : State} {Ls' : Array Slot} {st' : List Value} (f : ∀ t, Steps C.p.tables C.e C.below (T'.setTop (mkF C.m pc' Ls' st')) t → Steps C.p.tables C.e C.below (T.setTop (mkF C.m pc Ls st)) t) (g : Go C R q Z EL n0 Q T' pc' Ls' st') : Go C R q Z EL n0 Q T pc Ls st := by
  obtain ⟨s2, o, hs, r⟩ := g
  exact ⟨s2, o, f _ hs, r⟩
theorem On.here (X : On C R own b ml rt nm q Z a0 EL n0 vm T h k n) : At T C.m C.c C.below := by
  obtain ⟨⟨_, _, S, -⟩, -⟩ := X; exact S.here
theorem On.exec (X : On C R own b ml rt nm q Z a0 EL n0 vm T h k n) : C.p.tables.exec = Jvm.exec := X.2.2.1
theorem On.dec (X : On C R own b ml rt nm q Z a0 EL n0 vm T h k n) {i : Instr} {len : Nat} (hi : Ins b pc i len pc') : decode C.c.code pc = .ok (i, len) := by rw [X.2.2.2.1]; exact hi.1
theorem On.zw (X : On C R own b ml rt nm q Z a0 EL n0 vm T h k n) : Z.Warmed39 vm := X.2.2.2.2.2.2.2.2.1
theorem On.owned (X : On C R own b ml rt nm q Z a0 EL n0 vm T h k n) : vm.findClass own = some C.m.cls := X.2.2.2.2.2.2.2.2.2.1
theorem On.ew (X : On C R own b ml rt nm q Z a0 EL n0 vm T h k n) : EW Z a0 EL := X.2.2.2.2.2.2.2.2.2.2.1
theorem On.chr (X : On C R own b ml rt nm q Z a0 EL n0 vm T h k n) : CHr Z EL C.s.vm C.s.heap vm h := X.2.2.2.2.2.2.2.2.2.2.2.1
theorem On.chv (X : On C R own b ml rt nm q Z a0 EL n0 vm T h k n) : CHv Z EL vm h := X.chr.1
theorem On.old (X : On C R own b ml rt nm q Z a0 EL n0 vm T h k n) : Old Z n0 h := X.2.2.2.2.2.2.2.2.2.2.2.2.2
theorem On.n0le (X : On C R own b ml rt nm q Z a0 EL n0 vm T h k n) : n0 ≤ h.size := X.old.1 ▸ X.old.2.1
theorem On.ext0 (X : On C R own b ml rt nm q Z a0 EL n0 vm T h k n) : Ext Z.heap h := X.old.2
theorem On.eT (X : On C R own b ml rt nm q Z a0 EL n0 vm T h k n) : T.heap = h := X.2.1
theorem On.put (X : On C R own b ml rt nm q Z a0 EL n0 vm T h k n) {T' : State} {h' : Heap} {k' n' k0 : Nat} {locs' : List Loc} (S' : Stand C.p C.l C.e R (C.s.setVm vm) C.m C.args C.below C.meth C.c T' locs' k' n') (N' : Fr n0 locs') (hS : C.s.Since vm k0) (hk : k0 ≤ h.size)
    (e' : T'.heap = h') (hc : CHr Z EL vm h vm h') (hO : Old Z n0 h') : On C R own b ml rt nm q Z a0 EL n0 vm T' h' k' n' := by
  obtain ⟨-, -, e2, e3, e4, e5, e6, e7, e8, e9, e10, e11, e12, e13⟩ := X
  exact ⟨⟨k0, locs', S', N', hS, Nat.le_trans hk hc.2.1⟩, e', e2, e3, e4, e5, e6, e7, e8, e9, e10, e11.trans hc, e12, hO⟩
theorem On.more (X : On C R own b ml rt nm q Z a0 EL n0 vm T h k n) {k' n' : Nat} (hk : k ≤ k') (hn : n ≤ n') : On C R own b ml rt nm q Z a0 EL n0 vm T h k' n' := by
  obtain ⟨⟨k0, locs, S, N, hS, hk0⟩, -⟩ := id X
  exact X.put (S.more hk hn) N hS hk0 X.eT (CHr.refl X.chv) X.old
theorem On.aload_n (X : On C R own b ml rt nm q Z a0 EL n0 vm T h k n) {j : Fin 4} {v : Value} (hi : Ins b pc (.aload_n j) 1 pc') (hl : Ls[j.val]? = some (.val v)) (hv : v.isRef = true) (g : Go C R q Z EL n0 Q T pc' Ls (v :: st)) : Go C R q Z EL n0 Q T pc Ls st := by
  obtain ⟨-, rfl⟩ := id hi; exact Go.of (fun t z => XS.aloadN X.here X.exec rfl (X.dec hi) hl hv z) g
theorem On.aload (X : On C R own b ml rt nm q Z a0 EL n0 vm T h k n) {j : Nat} {v : Value} (hi : Ins b pc (.aload j) 2 pc') (hl : Ls[j]? = some (.val v)) (hv : v.isRef = true) (g : Go C R q Z EL n0 Q T pc' Ls (v :: st)) : Go C R q Z EL n0 Q T pc Ls st := by
  obtain ⟨-, rfl⟩ := id hi; exact Go.of (fun t z => XS.aload X.here X.exec rfl (X.dec hi) hl hv z) g
theorem On.iload_n (X : On C R own b ml rt nm q Z a0 EL n0 vm T h k n) {j : Fin 4} {v : Int32} (hi : Ins b pc (.iload_n j) 1 pc') (hl : Ls[j.val]? = some (.val (.int v))) (g : Go C R q Z EL n0 Q T pc' Ls (.int v :: st)) : Go C R q Z EL n0 Q T pc Ls st := by
  obtain ⟨-, rfl⟩ := id hi; exact Go.of (fun t z => XS.iloadN X.here X.exec rfl (X.dec hi) hl z) g
theorem On.iload (X : On C R own b ml rt nm q Z a0 EL n0 vm T h k n) {j : Nat} {v : Int32} (hi : Ins b pc (.iload j) 2 pc') (hl : Ls[j]? = some (.val (.int v))) (g : Go C R q Z EL n0 Q T pc' Ls (.int v :: st)) : Go C R q Z EL n0 Q T pc Ls st := by
  obtain ⟨-, rfl⟩ := id hi; exact Go.of (fun t z => XS.iload X.here X.exec rfl (X.dec hi) hl z) g
theorem On.iconst (X : On C R own b ml rt nm q Z a0 EL n0 vm T h k n) {i : Int} {z : Int32} (hi : Ins b pc (.iconst i) 1 pc') (hz : Int32.ofInt i = z) (g : Go C R q Z EL n0 Q T pc' Ls (.int z :: st)) : Go C R q Z EL n0 Q T pc Ls st := by
  subst hz; obtain ⟨-, rfl⟩ := id hi; exact Go.of (fun t z => XS.iconst X.here X.exec rfl (X.dec hi) z) g
theorem On.bipush (X : On C R own b ml rt nm q Z a0 EL n0 vm T h k n) {i : Int} {z : Int32} (hi : Ins b pc (.bipush i) 2 pc') (hz : (Int8.ofInt i).toInt32 = z) (g : Go C R q Z EL n0 Q T pc' Ls (.int z :: st)) : Go C R q Z EL n0 Q T pc Ls st := by
  subst hz; obtain ⟨-, rfl⟩ := id hi; exact Go.of (fun t z => XS.bipush X.here X.exec rfl (X.dec hi) z) g
theorem On.sipush (X : On C R own b ml rt nm q Z a0 EL n0 vm T h k n) {i : Int} {z : Int32} (hi : Ins b pc (.sipush i) 3 pc') (hz : (Int16.ofInt i).toInt32 = z) (g : Go C R q Z EL n0 Q T pc' Ls (.int z :: st)) : Go C R q Z EL n0 Q T pc Ls st := by
  subst hz; obtain ⟨-, rfl⟩ := id hi; exact Go.of (fun t z => XS.sipush X.here X.exec rfl (X.dec hi) z) g
theorem On.aconst_null (X : On C R own b ml rt nm q Z a0 EL n0 vm T h k n) (hi : Ins b pc .aconst_null 1 pc') (g : Go C R q Z EL n0 Q T pc' Ls (.null :: st)) : Go C R q Z EL n0 Q T pc Ls st := by
  obtain ⟨-, rfl⟩ := id hi; exact Go.of (fun t z => XS.aconstNull X.here X.exec rfl (X.dec hi) z) g
theorem On.istore_n (X : On C R own b ml rt nm q Z a0 EL n0 vm T h k n) {j : Fin 4} {x : Int32} (hi : Ins b pc (.istore_n j) 1 pc') (hl : storeLocals Ls j.val (.int x) = some Ls') (g : Go C R q Z EL n0 Q T pc' Ls' st) : Go C R q Z EL n0 Q T pc Ls (.int x :: st) := by
  obtain ⟨-, rfl⟩ := id hi; exact Go.of (fun t z => XS.istoreN X.here X.exec rfl (X.dec hi) rfl hl z) g
theorem On.istore (X : On C R own b ml rt nm q Z a0 EL n0 vm T h k n) {j : Nat} {x : Int32} (hi : Ins b pc (.istore j) 2 pc') (hl : storeLocals Ls j (.int x) = some Ls') (g : Go C R q Z EL n0 Q T pc' Ls' st) : Go C R q Z EL n0 Q T pc Ls (.int x :: st) := by
  obtain ⟨-, rfl⟩ := id hi; exact Go.of (fun t z => XS.istore X.here X.exec rfl (X.dec hi) rfl hl z) g
theorem On.astore_n (X : On C R own b ml rt nm q Z a0 EL n0 vm T h k n) {j : Fin 4} {x : Value} (hi : Ins b pc (.astore_n j) 1 pc') (hv : x.isRef = true) (hl : storeLocals Ls j.val x = some Ls') (g : Go C R q Z EL n0 Q T pc' Ls' st) : Go C R q Z EL n0 Q T pc Ls (x :: st) := by
  obtain ⟨-, rfl⟩ := id hi; exact Go.of (fun t z => XS.astoreN X.here X.exec rfl (X.dec hi) rfl hv hl z) g
theorem On.astore (X : On C R own b ml rt nm q Z a0 EL n0 vm T h k n) {j : Nat} {x : Value} (hi : Ins b pc (.astore j) 2 pc') (hv : x.isRef = true) (hl : storeLocals Ls j x = some Ls') (g : Go C R q Z EL n0 Q T pc' Ls' st) : Go C R q Z EL n0 Q T pc Ls (x :: st) := by
  obtain ⟨-, rfl⟩ := id hi; exact Go.of (fun t z => XS.astore X.here X.exec rfl (X.dec hi) rfl hv hl z) g
theorem On.iinc (X : On C R own b ml rt nm q Z a0 EL n0 vm T h k n) {j : Nat} {cst : Int} {x y : Int32} (hi : Ins b pc (.iinc j cst) 3 pc') (hl : Ls[j]? = some (.val (.int x))) (hz : x + Int32.ofInt cst = y) (hl' : storeLocals Ls j (.int y) = some Ls') (g : Go C R q Z EL n0 Q T pc' Ls' st) : Go C R q Z EL n0 Q T pc Ls st := by
  subst hz; obtain ⟨-, rfl⟩ := id hi; exact Go.of (fun t z => XS.iinc X.here X.exec rfl (X.dec hi) hl hl' z) g
theorem On.dup (X : On C R own b ml rt nm q Z a0 EL n0 vm T h k n) {x : Value} (hi : Ins b pc .dup 1 pc') (hc : x.category = 1) (g : Go C R q Z EL n0 Q T pc' Ls (x :: x :: st)) : Go C R q Z EL n0 Q T pc Ls (x :: st) := by
  obtain ⟨-, rfl⟩ := id hi; exact Go.of (fun t z => XS.dup X.here X.exec rfl (X.dec hi) rfl hc z) g
theorem On.pop (X : On C R own b ml rt nm q Z a0 EL n0 vm T h k n) {x : Value} (hi : Ins b pc .pop 1 pc') (hc : x.category = 1) (g : Go C R q Z EL n0 Q T pc' Ls st) : Go C R q Z EL n0 Q T pc Ls (x :: st) := by
  obtain ⟨-, rfl⟩ := id hi; exact Go.of (fun t z => XS.pop X.here X.exec rfl (X.dec hi) rfl hc z) g
theorem On.iadd (X : On C R own b ml rt nm q Z a0 EL n0 vm T h k n) {x y z : Int32} (hi : Ins b pc .iadd 1 pc') (hz : x + y = z) (g : Go C R q Z EL n0 Q T pc' Ls (.int z :: st)) : Go C R q Z EL n0 Q T pc Ls (.int y :: .int x :: st) := by
  subst hz; obtain ⟨-, rfl⟩ := id hi; exact Go.of (fun t z => XS.iadd X.here X.exec rfl (X.dec hi) rfl z) g
theorem On.isub (X : On C R own b ml rt nm q Z a0 EL n0 vm T h k n) {x y z : Int32} (hi : Ins b pc .isub 1 pc') (hz : x - y = z) (g : Go C R q Z EL n0 Q T pc' Ls (.int z :: st)) : Go C R q Z EL n0 Q T pc Ls (.int y :: .int x :: st) := by
  subst hz; obtain ⟨-, rfl⟩ := id hi; exact Go.of (fun t z => XS.isub X.here X.exec rfl (X.dec hi) rfl z) g
theorem On.iand (X : On C R own b ml rt nm q Z a0 EL n0 vm T h k n) {x y z : Int32} (hi : Ins b pc .iand 1 pc') (hz : x &&& y = z) (g : Go C R q Z EL n0 Q T pc' Ls (.int z :: st)) : Go C R q Z EL n0 Q T pc Ls (.int y :: .int x :: st) := by
  subst hz; obtain ⟨-, rfl⟩ := id hi; exact Go.of (fun t z => XS.iand X.here X.exec rfl (X.dec hi) rfl z) g
theorem On.ior (X : On C R own b ml rt nm q Z a0 EL n0 vm T h k n) {x y z : Int32} (hi : Ins b pc .ior 1 pc') (hz : x ||| y = z) (g : Go C R q Z EL n0 Q T pc' Ls (.int z :: st)) : Go C R q Z EL n0 Q T pc Ls (.int y :: .int x :: st) := by
  subst hz; obtain ⟨-, rfl⟩ := id hi; exact Go.of (fun t z => XS.ior X.here X.exec rfl (X.dec hi) rfl z) g
theorem On.ishl (X : On C R own b ml rt nm q Z a0 EL n0 vm T h k n) {x y z : Int32} (hi : Ins b pc .ishl 1 pc') (hz : x <<< (y &&& 31) = z) (g : Go C R q Z EL n0 Q T pc' Ls (.int z :: st)) : Go C R q Z EL n0 Q T pc Ls (.int y :: .int x :: st) := by
  subst hz; obtain ⟨-, rfl⟩ := id hi; exact Go.of (fun t z => XS.ishl X.here X.exec rfl (X.dec hi) rfl z) g
theorem On.ishr (X : On C R own b ml rt nm q Z a0 EL n0 vm T h k n) {x y z : Int32} (hi : Ins b pc .ishr 1 pc') (hz : x >>> (y &&& 31) = z) (g : Go C R q Z EL n0 Q T pc' Ls (.int z :: st)) : Go C R q Z EL n0 Q T pc Ls (.int y :: .int x :: st) := by
  subst hz; obtain ⟨-, rfl⟩ := id hi; exact Go.of (fun t z => XS.ishr X.here X.exec rfl (X.dec hi) rfl z) g
theorem On.iushr (X : On C R own b ml rt nm q Z a0 EL n0 vm T h k n) {x y z : Int32} (hi : Ins b pc .iushr 1 pc') (hz : (x.toUInt32 >>> (y &&& 31).toUInt32).toInt32 = z) (g : Go C R q Z EL n0 Q T pc' Ls (.int z :: st)) : Go C R q Z EL n0 Q T pc Ls (.int y :: .int x :: st) := by
  subst hz; obtain ⟨-, rfl⟩ := id hi; exact Go.of (fun t z => XS.iushr X.here X.exec rfl (X.dec hi) rfl z) g
theorem On.i2c (X : On C R own b ml rt nm q Z a0 EL n0 vm T h k n) {x z : Int32} (hi : Ins b pc .i2c 1 pc') (hz : x.toUInt32.toUInt16.toUInt32.toInt32 = z) (g : Go C R q Z EL n0 Q T pc' Ls (.int z :: st)) : Go C R q Z EL n0 Q T pc Ls (.int x :: st) := by
  subst hz; obtain ⟨-, rfl⟩ := id hi; exact Go.of (fun t z => XS.i2c X.here X.exec rfl (X.dec hi) rfl z) g
theorem On.i2b (X : On C R own b ml rt nm q Z a0 EL n0 vm T h k n) {x z : Int32} (hi : Ins b pc .i2b 1 pc') (hz : x.toInt8.toInt32 = z) (g : Go C R q Z EL n0 Q T pc' Ls (.int z :: st)) : Go C R q Z EL n0 Q T pc Ls (.int x :: st) := by
  subst hz; obtain ⟨-, rfl⟩ := id hi; exact Go.of (fun t z => XS.i2b X.here X.exec rfl (X.dec hi) rfl z) g
theorem On.goto (X : On C R own b ml rt nm q Z a0 EL n0 vm T h k n) {o : Int} (hi : Ins b pc (.goto o) 3 pc') (hj : Jmp pc o pt) (g : Go C R q Z EL n0 Q T pt Ls st) : Go C R q Z EL n0 Q T pc Ls st :=
  Go.of (fun t z => XS.goto X.here X.exec rfl rfl (X.dec hi) hj.1 hj.2 z) g
theorem On.ifY (X : On C R own b ml rt nm q Z a0 EL n0 vm T h k n) {cd : ClassFile.Cond} {o : Int} {x : Int32} (hi : Ins b pc (.ifCond cd o) 3 pc') (hj : Jmp pc o pt) (hc : ifCond.holds cd x = true) (g : Go C R q Z EL n0 Q T pt Ls st) : Go C R q Z EL n0 Q T pc Ls (.int x :: st) :=
  Go.of (fun t z => XS.ifYes X.here X.exec rfl rfl (X.dec hi) rfl hc hj.1 hj.2 z) g
theorem On.ifN (X : On C R own b ml rt nm q Z a0 EL n0 vm T h k n) {cd : ClassFile.Cond} {o : Int} {x : Int32} (hi : Ins b pc (.ifCond cd o) 3 pc') (hc : ifCond.holds cd x = false) (g : Go C R q Z EL n0 Q T pc' Ls st) : Go C R q Z EL n0 Q T pc Ls (.int x :: st) := by
  obtain ⟨-, rfl⟩ := id hi; exact Go.of (fun t z => XS.ifNo X.here X.exec rfl (X.dec hi) rfl hc z) g
theorem On.icY (X : On C R own b ml rt nm q Z a0 EL n0 vm T h k n) {cd : ClassFile.Cond} {o : Int} {x y : Int32} (hi : Ins b pc (.if_icmp cd o) 3 pc') (hj : Jmp pc o pt) (hc : if_icmp.holds cd x y = true) (g : Go C R q Z EL n0 Q T pt Ls st) : Go C R q Z EL n0 Q T pc Ls (.int y :: .int x :: st) :=
  Go.of (fun t z => XS.icmpYes X.here X.exec rfl rfl (X.dec hi) rfl hc hj.1 hj.2 z) g
theorem On.icN (X : On C R own b ml rt nm q Z a0 EL n0 vm T h k n) {cd : ClassFile.Cond} {o : Int} {x y : Int32} (hi : Ins b pc (.if_icmp cd o) 3 pc') (hc : if_icmp.holds cd x y = false) (g : Go C R q Z EL n0 Q T pc' Ls st) : Go C R q Z EL n0 Q T pc Ls (.int y :: .int x :: st) := by
  obtain ⟨-, rfl⟩ := id hi; exact Go.of (fun t z => XS.icmpNo X.here X.exec rfl (X.dec hi) rfl hc z) g
theorem On.nonnullY (X : On C R own b ml rt nm q Z a0 EL n0 vm T h k n) {o : Int} {a : Addr} (hi : Ins b pc (.ifnonnull o) 3 pc') (hj : Jmp pc o pt) (g : Go C R q Z EL n0 Q T pt Ls st) : Go C R q Z EL n0 Q T pc Ls (.ref a :: st) :=
  Go.of (fun t z => XS.ifnonnullYes X.here X.exec rfl rfl (X.dec hi) rfl hj.1 hj.2 z) g
theorem On.nonnullN (X : On C R own b ml rt nm q Z a0 EL n0 vm T h k n) {o : Int} (hi : Ins b pc (.ifnonnull o) 3 pc') (g : Go C R q Z EL n0 Q T pc' Ls st) : Go C R q Z EL n0 Q T pc Ls (.null :: st) := by
  obtain ⟨-, rfl⟩ := id hi; exact Go.of (fun t z => XS.ifnonnullNo X.here X.exec rfl (X.dec hi) rfl z) g
theorem On.acN (X : On C R own b ml rt nm q Z a0 EL n0 vm T h k n) {cd : ACond} {o : Int} {x y : Value} (hi : Ins b pc (.if_acmp cd o) 3 pc') (hx' : x.isRef = true) (hy' : y.isRef = true) (hc : XT.acmp cd x y = false) (g : Go C R q Z EL n0 Q T pc' Ls st) : Go C R q Z EL n0 Q T pc Ls (y :: x :: st) := by
  obtain ⟨-, rfl⟩ := id hi; exact Go.of (fun t z => XT.acmpNo X.here X.exec rfl (X.dec hi) rfl hx' hy' hc z) g
end Laws
end Jvm.Own
namespace Jvm.Own
open Jvm Jvm.ClassFile Sem Op Lib Jvm.Free Jvm.Stand Jvm.LawKit Jvm.RoadKit Bundle
section Heap
variable {C : Cx} {R : Room} {own : String} {b : ByteArray} {ml : Nat} {rt : Option FieldType} {nm : String} {q : Bool} {Z : State} {a0 : Array Value} {EL : List (String × Nat)} {n0 : Nat} {vm : Vm} {T : State} {h : Heap} {k n : Nat} {Q : Option Value → Heap → (Addr → Prop) → Prop} {pc pc' pt : Nat} {Ls Ls' : Array Slot} {st : List Value}
theorem On.getfield (X : On C R own b ml rt nm q Z a0 EL n0 vm T h k n) {R0 O f d : String} {ix : Nat} {a : Addr} {v : Value} (hi : Ins b pc (.getfield ix) 3 pc') (w : (Cond.fieldLink own ix R0 f d).before a0 Z = true) (via : Via Z R0 O f d) (F : Fld Z h a O f d v)
    (g : ∀ T', On C R own b ml rt nm q Z a0 EL n0 vm T' h k n → Go C R q Z EL n0 Q T' pc' Ls (v :: st)) : Go C R q Z EL n0 Q T pc Ls (.ref a :: st) := by
  obtain ⟨-, rfl⟩ := id hi
  obtain ⟨⟨k0, locs, S, N, hS, hk⟩, -⟩ := id X
  obtain ⟨T', S', e', st'⟩ := getF S X.exec X.zw X.owned (host := "") (Or.inl w) via X.eT F (g := mkF C.m pc Ls (.ref a :: st)) rfl rfl (X.dec hi)
  exact Go.of st' (g T' (X.put S' N hS hk e' (CHr.refl X.chv) X.old))
theorem On.getstatic (X : On C R own b ml rt nm q Z a0 EL n0 vm T h k n) {R0 O f d : String} {ix : Nat} {v : Value} (hi : Ins b pc (.getstatic ix) 3 pc') (w : (Cond.fieldLink own ix R0 f d).before a0 Z = true) (via : Via Z R0 O f d) (F : Sta Z h O f d v)
    (g : ∀ T', On C R own b ml rt nm q Z a0 EL n0 vm T' h k n → Go C R q Z EL n0 Q T' pc' Ls (v :: st)) : Go C R q Z EL n0 Q T pc Ls st := by
  obtain ⟨-, rfl⟩ := id hi
  obtain ⟨⟨k0, locs, S, N, hS, hk⟩, -⟩ := id X
  obtain ⟨T', S', e', st'⟩ := getS (host := "") S X.exec X.zw X.owned w via X.eT F (g := mkF C.m pc Ls st) rfl (X.dec hi)
  exact Go.of st' (g T' (X.put S' N hS hk e' (CHr.refl X.chv) X.old))
theorem ext_wr {h1 h2 h3 : Heap} {a : Addr} {sl : Nat} {v : Value} (E : Ext h1 h2) (W : Wr h2 h3 a sl v) (ha : h1.size ≤ a) : Ext h1 h3 :=
  ⟨Nat.le_trans E.1 (Nat.le_of_eq W.size.symm), fun x c hx => by
    obtain ⟨c', e1, -, -, -, e5, -⟩ := wr_at W (E.2 x c hx)
    rw [e1, e5 fun q => absurd (Array.getElem?_eq_some_iff.mp hx).1 (Nat.not_lt.mpr (q ▸ ha))]⟩
theorem ext_keep {h1 h2 h3 : Heap} {ws : List Addr} (E : Ext h1 h2) (K : Keep h2 h3 ws) (ha : ∀ x ∈ ws, h1.size ≤ x) : Ext h1 h3 :=
  ⟨Nat.le_trans E.1 K.1, fun x c hx => K.2.1 x c (E.2 x c hx) fun hm => absurd (Array.getElem?_eq_some_iff.mp hx).1 (Nat.not_lt.mpr (ha x hm))⟩
theorem ext_trans {h1 h2 h3 : Heap} (E : Ext h1 h2) (E' : Ext h2 h3) : Ext h1 h3 := ⟨Nat.le_trans E.1 E'.1, fun x c q => E'.2 x c (E.2 x c q)⟩
theorem On.putfield (X : On C R own b ml rt nm q Z a0 EL n0 vm T h k n) {R0 O f d Cl : String} {ix kk : Nat} {a : Addr} {v old : Value} {ty : FieldType} (hi : Ins b pc (.putfield ix) 3 pc') (w : (Cond.fieldLink own ix R0 f d).before a0 Z = true) (via : Via Z R0 O f d) (F : Fld Z h a O f d old) (E : Exa Z h a Cl)
    (L : (Cond.lays Cl O f d).before a0 Z = true ∨ ((Cond.laysFinal Cl O f d).before a0 Z = true ∧ own = O ∧ nm = "<init>")) (wi : (Cond.instantiable Cl kk).before a0 Z = true) (hty : parseFieldDescriptor d = some ty) (hn : narrow ty v = v) (hf : fits ty v = true) (ga : n0 ≤ a) (Sf : Safe Z EL vm h a)
    (g : ∀ T' h', On C R own b ml rt nm q Z a0 EL n0 vm T' h' k n → Wr h h' a (RoadKit.slotOf Z O f d) v → Go C R q Z EL n0 Q T' pc' Ls st) : Go C R q Z EL n0 Q T pc Ls (v :: .ref a :: st) := by
  obtain ⟨-, rfl⟩ := id hi
  obtain ⟨⟨k0, locs, S, N, hS, hk⟩, -, -, -, -, -, hnm, -⟩ := id X
  obtain ⟨T', h', S', e', W', st'⟩ := putF S X.exec X.zw X.owned (host := "") (Or.inl w) via X.eT F E (L.imp id fun z => ⟨z.1, z.2.1, hnm.trans z.2.2⟩) wi hty hn hf (g := mkF C.m pc Ls (v :: .ref a :: st)) rfl rfl (X.dec hi)
  exact Go.of st' (g T' h' (X.put S' (Fr.snoc S' N ga) hS hk e' (CHr.wr W' Sf X.chv) (X.old.wr W' ga)) W')
theorem On.new (X : On C R own b ml rt nm q Z a0 EL n0 vm T h k n) {Cl : String} {ix nf k' n' : Nat} (hi : Ins b pc (.new ix) 3 pc') (w : (Cond.classLink own ix Cl).before a0 Z = true) (wi : (Cond.instantiable Cl nf).before a0 Z = true) (wz : (Cond.initialized Cl).before a0 Z = true)
    (hk' : k + 1 = k') (hn' : n + nf = n') (hc : k' ≤ R.cells) (hl : n' ≤ R.slots)
    (g : ∀ T' h' a, On C R own b ml rt nm q Z a0 EL n0 vm T' h' k' n' → Ext h h' → h.size = a → n0 ≤ a → Exa Z h' a Cl → (∀ {O nm d : String} {ty : FieldType}, Laid Z a0 Cl O nm d → parseFieldDescriptor d = some ty → Fld Z h' a O nm d (defaultValue ty)) → Unt h' a → Safe Z EL vm h' a →
      Go C R q Z EL n0 Q T' pc' Ls (.ref a :: st)) : Go C R q Z EL n0 Q T pc Ls st := by
  subst hk' hn'
  obtain ⟨-, rfl⟩ := id hi
  obtain ⟨⟨k0, locs, S, N, hS, hk⟩, -⟩ := id X
  obtain ⟨T', h', S', e', E', A', D', U', st'⟩ := newO S X.exec X.zw X.owned w wi wz X.eT (g := mkF C.m pc Ls st) rfl (X.dec hi) hc hl
  exact Go.of st' (g T' h' h.size (X.put S' N hS hk e' (CHr.ext E' X.chv) (X.old.ext E')) E' rfl X.n0le A' D' U' ((Safe.new (Nat.le_refl _)).ext E' X.chv))
theorem On.newarray (X : On C R own b ml rt nm q Z a0 EL n0 vm T h k n) {aty : ArrayType} {ty : FieldType} {z : Int32} {cap k' n' : Nat} (hi : Ins b pc (.newarray aty) 2 pc') (hty : newarray.typeOf aty = ty) (w : (Cond.arrayClass ty).before a0 Z = true)
    (hz : ¬ z < 0) (hcap : z.toNatClampNeg ≤ cap) (hbig : cap * 8 ≤ 536870912) (hk' : k + 1 = k') (hn' : n + cap = n') (hc : k' ≤ R.cells) (hl : n' ≤ R.slots)
    (g : ∀ T' h' a kA, On C R own b ml rt nm q Z a0 EL n0 vm T' h' k' n' → Ext h h' → h.size = a → n0 ≤ a → Arv Z h' a kA ty z [] (defaultValue ty) → Safe Z EL vm h' a → Go C R q Z EL n0 Q T' pc' Ls (.ref a :: st)) : Go C R q Z EL n0 Q T pc Ls (.int z :: st) := by
  subst hk' hn' hty
  obtain ⟨-, rfl⟩ := id hi
  obtain ⟨⟨k0, locs, S, N, hS, hk⟩, -⟩ := id X
  obtain ⟨T', h', kA, S', e', E', A', st'⟩ := newP S X.exec X.zw w X.eT (g := mkF C.m pc Ls (.int z :: st)) rfl (X.dec hi) rfl hz hcap hbig hc hl
  exact Go.of st' (g T' h' h.size kA (X.put S' N hS hk e' (CHr.ext E' X.chv) (X.old.ext E')) E' rfl X.n0le (Arv.new A' hz) ((Safe.new (Nat.le_refl _)).ext E' X.chv))
theorem On.castore (X : On C R own b ml rt nm q Z a0 EL n0 vm T h k n) {a : Addr} {kA : ClassId} {z j x y : Int32} {vs : List Value} {dv : Value} {i : Nat} (hi : Ins b pc .castore 1 pc') (V : Arv Z h a kA .char z vs dv) (hin : ¬ j < 0 ∧ j < z) (hj : j.toNatClampNeg = i) (hl : i < vs.length) (hy : nar .char x = y) (ga : n0 ≤ a)
    (g : ∀ T' h', On C R own b ml rt nm q Z a0 EL n0 vm T' h' k n → Wr h h' a i (.int y) → Arv Z h' a kA .char z (vs.set i (.int y)) dv → Go C R q Z EL n0 Q T' pc' Ls st) : Go C R q Z EL n0 Q T pc Ls (.int x :: .int j :: .ref a :: st) := by
  subst hy hj
  obtain ⟨-, rfl⟩ := id hi
  obtain ⟨⟨k0, locs, S, N, hS, hk⟩, -⟩ := id X
  have Sf : Safe Z EL vm h a := Safe.arv X.zw.alike V (by simp)
  obtain ⟨cl, A, V2, V3, V4, V5, V6⟩ := V
  obtain ⟨T', h', S', e', W', st'⟩ := stC S X.exec X.zw X.eT A (j := j) (inb_of V3 hin) (g := mkF C.m pc Ls (.int x :: .int j :: .ref a :: st)) rfl rfl (X.dec hi)
  exact Go.of st' (g T' h' (X.put S' (Fr.snoc S' N ga) hS hk e' (CHr.wr W' Sf X.chv) (X.old.wr W' ga)) W' (Arv.set A V2 V3 V4 V5 V6 (fits_nar_char _) W' _ rfl hl))
theorem On.bastore (X : On C R own b ml rt nm q Z a0 EL n0 vm T h k n) {a : Addr} {kA : ClassId} {z j x y : Int32} {vs : List Value} {dv : Value} {i : Nat} (hi : Ins b pc .bastore 1 pc') (V : Arv Z h a kA .byte z vs dv) (hin : ¬ j < 0 ∧ j < z) (hj : j.toNatClampNeg = i) (hl : i < vs.length) (hy : nar .byte x = y) (ga : n0 ≤ a) (Sf : Safe Z EL vm h a)
    (g : ∀ T' h', On C R own b ml rt nm q Z a0 EL n0 vm T' h' k n → Wr h h' a i (.int y) → Arv Z h' a kA .byte z (vs.set i (.int y)) dv → Go C R q Z EL n0 Q T' pc' Ls st) : Go C R q Z EL n0 Q T pc Ls (.int x :: .int j :: .ref a :: st) := by
  subst hy hj
  obtain ⟨-, rfl⟩ := id hi
  obtain ⟨⟨k0, locs, S, N, hS, hk⟩, -⟩ := id X
  obtain ⟨cl, A, V2, V3, V4, V5, V6⟩ := V
  obtain ⟨T', h', S', e', W', st'⟩ := stB S X.exec X.zw X.eT A (j := j) (inb_of V3 hin) (g := mkF C.m pc Ls (.int x :: .int j :: .ref a :: st)) rfl rfl (X.dec hi)
  exact Go.of st' (g T' h' (X.put S' (Fr.snoc S' N ga) hS hk e' (CHr.wr W' Sf X.chv) (X.old.wr W' ga)) W' (Arv.set A V2 V3 V4 V5 V6 (fits_nar_byte _) W' _ rfl hl))
theorem On.arraylength (X : On C R own b ml rt nm q Z a0 EL n0 vm T h k n) {a : Addr} {kA : ClassId} {ty : FieldType} {z : Int32} {vs : List Value} {dv : Value} (hi : Ins b pc .arraylength 1 pc') (V : Arv Z h a kA ty z vs dv)
    (g : Go C R q Z EL n0 Q T pc' Ls (.int z :: st)) : Go C R q Z EL n0 Q T pc Ls (.ref a :: st) := by
  obtain ⟨-, rfl⟩ := id hi
  obtain ⟨⟨k0, locs, S, N, hS, hk⟩, -⟩ := id X
  obtain ⟨cl, A, V2, V3, V4, V5, V6⟩ := V
  refine Go.of (fun t u => S.arraylength X.exec (by rw [X.eT]; exact A.1) (State.isArrayOf_alike X.zw.alike A.2.1) (g := mkF C.m pc Ls (.ref a :: st)) rfl rfl (X.dec hi) t ?_) g
  rw [len_of V3 V4]; exact u
theorem On.caload (X : On C R own b ml rt nm q Z a0 EL n0 vm T h k n) {a : Addr} {kA : ClassId} {z j : Int32} {vs : List Value} {dv v : Value} (hi : Ins b pc .caload 1 pc') (V : Arv Z h a kA .char z vs dv) (hin : ¬ j < 0 ∧ j < z) (hv : vs.getD j.toNatClampNeg dv = v)
    (g : Go C R q Z EL n0 Q T pc' Ls (v :: st)) : Go C R q Z EL n0 Q T pc Ls (.int j :: .ref a :: st) := by
  obtain ⟨-, rfl⟩ := id hi
  obtain ⟨⟨k0, locs, S, N, hS, hk⟩, -⟩ := id X
  obtain ⟨cl, A, V2, V3, V4, V5, V6⟩ := V
  exact Go.of (fun t u => S.caload X.exec (by rw [X.eT]; exact A.1) (State.isArrayOf_alike X.zw.alike A.2.1) A.2.2 (inb_of V3 hin) (V5.at (inb_of V3 hin) hv) (g := mkF C.m pc Ls (.int j :: .ref a :: st)) rfl rfl (X.dec hi) t u) g
theorem On.baload (X : On C R own b ml rt nm q Z a0 EL n0 vm T h k n) {a : Addr} {kA : ClassId} {z j : Int32} {vs : List Value} {dv v : Value} (hi : Ins b pc .baload 1 pc') (V : Arv Z h a kA .byte z vs dv) (hin : ¬ j < 0 ∧ j < z) (hv : vs.getD j.toNatClampNeg dv = v)
    (g : Go C R q Z EL n0 Q T pc' Ls (v :: st)) : Go C R q Z EL n0 Q T pc Ls (.int j :: .ref a :: st) := by
  obtain ⟨-, rfl⟩ := id hi
  obtain ⟨⟨k0, locs, S, N, hS, hk⟩, -⟩ := id X
  obtain ⟨cl, A, V2, V3, V4, V5, V6⟩ := V
  exact Go.of (fun t u => S.baloadBytes X.exec (by rw [X.eT]; exact A.1) (State.isArrayOf_alike X.zw.alike A.2.1) A.2.2 (inb_of V3 hin) (V5.at (inb_of V3 hin) hv) (g := mkF C.m pc Ls (.int j :: .ref a :: st)) rfl rfl (X.dec hi) t u) g
theorem On.ldcI (X : On C R own b ml rt nm q Z a0 EL n0 vm T h k n) {ix : Nat} {v : Int32} (hi : Ins b pc (.ldc ix) 2 pc') (w : (Cond.constant own ix v).before a0 Z = true) (g : Go C R q Z EL n0 Q T pc' Ls (.int v :: st)) : Go C R q Z EL n0 Q T pc Ls st := by
  obtain ⟨-, rfl⟩ := id hi
  obtain ⟨⟨k0, locs, S, N, hS, hk⟩, -⟩ := id X
  exact Go.of (fun t u => S.ldcI X.exec X.owned (mv (s := C.s.setVm vm) X.zw w) (g := mkF C.m pc Ls st) rfl (X.dec hi) u) g
theorem On.checkcast (X : On C R own b ml rt nm q Z a0 EL n0 vm T h k n) {K : String} {ix : Nat} {a : Addr} (hi : Ins b pc (.checkcast ix) 3 pc') (w : (Cond.classLink own ix K).before a0 Z = true) (F : RoadKit.Ins Z h a K true)
    (g : ∀ T', On C R own b ml rt nm q Z a0 EL n0 vm T' h k n → Go C R q Z EL n0 Q T' pc' Ls (.ref a :: st)) : Go C R q Z EL n0 Q T pc Ls (.ref a :: st) := by
  obtain ⟨-, rfl⟩ := id hi
  obtain ⟨⟨k0, locs, S, N, hS, hk⟩, -⟩ := id X
  obtain ⟨T', S', e', st'⟩ := castY S X.exec X.zw X.owned w X.eT F (g := mkF C.m pc Ls (.ref a :: st)) rfl rfl (X.dec hi)
  exact Go.of st' (g T' (X.put S' N hS hk e' (CHr.refl X.chv) X.old))
theorem On.initO (X : On C R own b ml rt nm q Z a0 EL n0 vm T h k n) {ix W : Nat} {a : Addr} (hi : Ins b pc (.invokespecial ix) 3 pc') (w1 : (Cond.methodLink own ix Lib.objectInit).before a0 Z = true) (w2 : (Cond.instanceMethod Lib.objectInit).before a0 Z = true) (w3 : (Cond.code Lib.objectInit ⟨#[0xb1]⟩ 1 none).before a0 Z = true)
    (hsz : Ls.size = ml) (hf : 1 ≤ R.frames) (hW : 0 + (st.map fun v => v.category).sum = W) (hl : W + 12 ≤ R.locals)
    (g : ∀ T', On C R own b ml rt nm q Z a0 EL n0 vm T' h k n → Go C R q Z EL n0 Q T' pc' Ls st) : Go C R q Z EL n0 Q T pc Ls (.ref a :: st) := by
  obtain ⟨-, rfl⟩ := id hi
  obtain ⟨⟨k0, locs, S, N, hS, hk⟩, -, -, -, hml, -⟩ := id X
  obtain ⟨T', S', e', st'⟩ := RoadKit.initO S X.exec X.zw X.owned w1 w2 w3 X.eT (g := mkF C.m pc Ls (.ref a :: st)) rfl (hsz.trans hml.symm) rfl (X.dec hi) hf (W := W) (Nat.le_of_eq hW) hl
  exact Go.of st' (g T' (X.put S' N hS hk e' (CHr.refl X.chv) X.old))
theorem On.leave (X : On C R own b ml rt nm q Z a0 EL n0 vm T h k n) {v : Option Value} (hv : rt = none → v = none) (hk : k ≤ R.cells) (hn : n ≤ R.slots) (hQ : ∀ sf : Addr → Prop, (∀ x, Safe Z EL vm h x → sf x) → Q v h sf) {Ls : Array Slot} {st : List Value}
    (f : ∀ locs fs, Stand C.p C.l C.e R (C.s.setVm vm) C.m C.args C.below C.meth C.c T locs k n → (∀ (f : JFrame) (acts : List Action), f.method = C.m → f.locked = none → f.entered = [] → (doReturn C.e (T.setTop f) acts v).1 = T.setFrames fs) → Steps C.p.tables C.e C.below (T.setTop (mkF C.m pc Ls st)) (T.setFrames fs)) :
    Go C R q Z EL n0 Q T pc Ls st := by
  obtain ⟨⟨k0, locs, S, N, hS, hk0⟩, eT, e2, e3, e4, e5, e6, e7, e8, e9, e10, e11, e12, e13⟩ := X
  subst eT
  obtain ⟨fs, h1, h2, h3, h4⟩ := S.leaveW hS hk0 (v := v) (fun z => hv (e5.symm.trans z)) e7
  obtain ⟨r1, r2, r3, r4⟩ := h4
  have r5 : C.s.sameButNew { T.setFrames fs with vm := C.s.vm } locs R.cells R.slots := r4.mono hk hn
  have cA : CHr Z EL vm T.heap T.vm T.heap := CHv.at S e8 e10 e11.1
  have hQ2 : Q v T.heap (Safe Z EL T.vm T.heap) := hQ _ fun x hx => by
    by_cases hl : x < T.heap.size
    · exact cA.safe hl hx
    · exact Safe.new (Nat.le_of_not_lt hl)
  refine ⟨T.setFrames fs, .returned v, f locs fs S h1, h2, h3, v, locs, rfl, ⟨hQ2, N, e13⟩, e11.trans (show CHr Z EL vm T.heap T.vm T.heap from CHv.at S e8 e10 e11.1), ⟨r1, r2, r3, r5⟩, fun hq => ⟨r1, ?_, r5⟩⟩
  exact State.WarmedH.trans (t := C.s.setVm vm) (e12 hq) S.warmed
theorem On.ret (X : On C R own b ml rt nm q Z a0 EL n0 vm T h k n) (hi : Ins b pc .return_ 1 pc') (hr : rt = none) (hk : k ≤ R.cells) (hn : n ≤ R.slots) (hQ : ∀ sf : Addr → Prop, (∀ x, Safe Z EL vm h x → sf x) → Q none h sf) : Go C R q Z EL n0 Q T pc Ls [] :=
  X.leave (v := none) (fun _ => rfl) hk hn hQ fun locs fs S hl => S.returnOut X.exec (X.2.2.2.2.2.1.trans hr) (X.dec hi) hl
theorem On.ireturn (X : On C R own b ml rt nm q Z a0 EL n0 vm T h k n) {t : FieldType} {z : Int32} (hi : Ins b pc .ireturn 1 pc') (hr : rt = some t) (ht : t = .int ∨ t = .boolean ∨ t = .byte ∨ t = .char ∨ t = .short) (hz : narrow t (.int z) = .int z) (hk : k ≤ R.cells) (hn : n ≤ R.slots) (hQ : ∀ sf : Addr → Prop, (∀ x, Safe Z EL vm h x → sf x) → Q (some (.int z)) h sf) : Go C R q Z EL n0 Q T pc Ls (.int z :: st) :=
  X.leave (v := some (.int z)) (fun y => by rw [hr] at y; cases y) hk hn hQ fun locs fs S hl => retOut S X.exec (X.2.2.2.2.2.1.trans hr) hz (Or.inl ⟨rfl, ht, z, rfl⟩) (X.dec hi) hl
theorem On.areturn (X : On C R own b ml rt nm q Z a0 EL n0 vm T h k n) {t : FieldType} {v : Value} (hi : Ins b pc .areturn 1 pc') (hr : rt = some t) (ht : t.isReference = true) (hv : v.isRef = true) (hk : k ≤ R.cells) (hn : n ≤ R.slots) (hQ : ∀ sf : Addr → Prop, (∀ x, Safe Z EL vm h x → sf x) → Q (some v) h sf) : Go C R q Z EL n0 Q T pc Ls (v :: st) :=
  X.leave (v := some v) (fun y => by rw [hr] at y; cases y) hk hn hQ fun locs fs S hl => retOut S X.exec (X.2.2.2.2.2.1.trans hr) (by cases t <;> cases v <;> first | rfl | simp [FieldType.isReference] at ht | simp [Value.isRef] at hv) (Or.inr (Or.inr (Or.inr (Or.inr ⟨rfl, ht, hv⟩)))) (X.dec hi) hl
end Heap
end Jvm.Own
namespace Jvm.Own
open Jvm Jvm.ClassFile Sem Op Lib Jvm.Free Jvm.Stand Jvm.LawKit Jvm.RoadKit Bundle
def Con (wl : List Jvm.Cond) (q : Bool) (l : Launch) (Z : State) (EL : List (String × Nat)) (n0 : Nat) (ws : List Addr) (y : MethodName) (bytes : ByteArray) (maxL : Nat) (ret : Option FieldType) (rm : Room) (as' : Array Value) (h : Heap) (Q : Option Value → Heap → (Addr → Prop) → Prop) : Prop :=
  MetFree l y (head1 (Cond.code y bytes maxL ret :: wl) rm) (fun a U => a = as' ∧ Z.Warmed39 U.vm ∧ U.heap = h ∧ CHv Z EL U.vm h ∧ ∀ x ∈ ws, Safe Z EL U.vm h x) (fun _ _ _ _ _ => True)
    (fun _ U o U' => ∃ v L, o = .returned v ∧ (Q v U'.heap (Safe Z EL U'.vm U'.heap) ∧ Fr n0 L ∧ Old Z n0 U'.heap) ∧ CHr Z EL U.vm U.heap U'.vm U'.heap ∧ EndQ q U o U' L rm.cells rm.slots)
theorem Con.intro {wl : List Jvm.Cond} {q : Bool} {l : Launch} {Z : State} {a0 : Array Value} {EL : List (String × Nat)} {n0 : Nat} {ws : List Addr} {y : MethodName} {bytes : ByteArray} {maxL : Nat} {ret : Option FieldType} {rm : Room} {as' : Array Value} {h : Heap} {Q : Option Value → Heap → (Addr → Prop) → Prop} {Ls : Array Slot}
    (hp : plainFor y = true) (hEL : EW Z a0 EL) (hO : Old Z n0 h) (ef : ∀ m, entryFrame m as' maxL = mkF m 0 Ls [])
    (body : ∀ (C : Cx) (vm : Vm) (T : State), C.l = l → On C rm y.cls bytes maxL ret y.name q Z a0 EL n0 vm T h 0 0 → (∀ x ∈ ws, Safe Z EL vm h x) → Go C rm q Z EL n0 Q T 0 Ls []) : Con wl q l Z EL n0 ws y bytes maxL ret rm as' h Q := by
  refine MetFree.of_bodySF hp hisR ?_
  intro p e s m args below meth c s₁ Bd hml0 hP hK
  obtain ⟨rfl, hZ, rfl, hC, hw⟩ := hP
  have e0 : s₁.heap = s.heap := by rw [Bd.state]; rfl
  have S0 : Stand p l e rm s m args below meth c s₁ [] 0 0 := Stand.of_body Bd
  have g := body (p, l, e, s, m, args, below, meth, c) s.vm s₁ rfl ⟨⟨0, [], S0, Fr.nil n0, (State.WarmedH.refl s).since 0, Nat.zero_le _⟩, e0, Bd.exec, Bd.bytes, hml0, Bd.returns, (name_of_methodNamed Bd.named Bd.method).1, Bd.notSynchronized, hZ, findClass_of_methodNamed Bd.named, hEL, CHr.refl hC, fun _ => State.WarmedH.refl s, hO⟩ hw
  obtain ⟨s2, o, g1, g2, g3, v, L, g4, g5, g6, g7⟩ := g
  refine ⟨s2, o, castTop (ef m) g1, g2, g3, v, L, g4, g5, g6, g7⟩
theorem backQ {q : Bool} {l : Launch} {Z : State} {a0 : Array Value} {EL : List (String × Nat)} {n0 : Nat} {ws : List Addr} {y : MethodName} {bytes : ByteArray} {maxL : Nat} {ret : Option FieldType} {rm R : Room} {as' : Array Value} {h : Heap} {Q : Option Value → Heap → (Addr → Prop) → Prop} {p : Program} {e : Env} {below : List Frame} {s : State} {args : Array Value} {vm : Vm} {len W : Nat}
    (hM : Con [] q l Z EL n0 ws y bytes maxL ret rm as' h Q) (hZ : Z.Warmed39 vm) (wc : (Cond.code y bytes maxL ret).before a0 Z = true) (wz : (Cond.initialized y.cls).before a0 Z = true) (hf : rm.frames + 1 ≤ R.frames) (hl : W + (maxL + 11) + rm.locals ≤ R.locals) (hEL : EW Z a0 EL) (H : CHv Z EL vm h) (hs : ∀ x ∈ ws, Safe Z EL vm h x ∧ x < h.size) :
    BackS l R p e below (s.setVm vm) args y len W (fun A a => a = as' ∧ A.U.heap = h ∧ A.cells + rm.cells ≤ R.cells ∧ A.slots + rm.slots ≤ R.slots)
      (fun A _ v B => ∃ L, (Q v B.U.heap (Safe Z EL B.U.vm B.U.heap) ∧ Fr n0 L ∧ Old Z n0 B.U.heap) ∧ B.locs = A.locs ++ L ∧ B.cells = A.cells + rm.cells ∧ B.slots = A.slots + rm.slots ∧ CHr Z EL vm h B.U.vm B.U.heap ∧ (q = true → (s.setVm vm).WarmedH B.U.vm)) :=
  BackS.of_freeW (bytes := bytes) (maxL := maxL) (ret := ret) (E := fun _ first o t L k n => k = rm.cells ∧ n = rm.slots ∧ (∃ v, o = .returned v ∧ (Q v t.heap (Safe Z EL t.vm t.heap) ∧ Fr n0 L ∧ Old Z n0 t.heap)) ∧ CHr Z EL first.vm first.heap t.vm t.heap ∧ (q = true → first.WarmedH t.vm)) hM hf hl
    (fun m meth c A a Y hp => have hU : Z.Warmed39 A.U.vm := wtrans (s := s.setVm vm) hZ Y.warmed
      ⟨by show (Cond.and _ .tt).before a A.U = true; rw [Cond.before_and, mv hU wc]; rfl, mv hU wc, mv hU wz, hp.2.2.1, hp.2.2.2⟩)
    (fun m meth c A a g mk Y hp => ⟨hp.1, wtrans (s := s.setVm vm) hZ Y.warmed, hp.2.1, (CHv.at Y hZ hEL H).1, fun x hx => (CHv.at Y hZ hEL H).safe (hs x hx).2 (hs x hx).1⟩) (fun _ _ _ _ _ _ _ _ _ => trivial)
    (fun _ _ _ _ ⟨v, L, h1, h2, h3, h4⟩ => ⟨L, _, _, h4.1, rfl, rfl, ⟨v, h1, h2⟩, h3, fun hq => (h4.2 hq).2.1⟩)
    (fun m meth c A a g mk v t L k n Y hp _ _ ⟨e1, e2, ⟨v', e3, e4⟩, e5, e6⟩ => by
      cases e3; subst e1 e2
      refine ⟨L, e4, rfl, rfl, rfl, (CHv.at Y hZ hEL H).trans ?_, fun hq => State.WarmedH.trans (t := A.U) Y.warmed (e6 hq)⟩
      rw [← hp.2.1]; exact e5)
section Calls
variable {C : Cx} {R : Room} {own : String} {b : ByteArray} {ml : Nat} {rt : Option FieldType} {nm : String} {q : Bool} {Z : State} {a0 : Array Value} {EL : List (String × Nat)} {n0 : Nat} {vm : Vm} {T : State} {h : Heap} {k n : Nat} {Q : Option Value → Heap → (Addr → Prop) → Prop} {pc pc' pt : Nat} {Ls Ls' : Array Slot} {st : List Value}
theorem On.after (X : On C R own b ml rt nm q Z a0 EL n0 vm T h k n) {B : Pt} {rm : Room} {Q' : Prop} {k' n' k0 : Nat} {locs : List Loc} (N : Fr n0 locs) (hS : C.s.Since vm k0) (hk : k0 ≤ h.size)
    (S' : Stand C.p C.l C.e R ((C.s.setVm vm).setVm B.U.vm) C.m C.args C.below C.meth C.c B.U B.locs B.cells B.slots) (hs : (C.s.setVm vm).Since B.U.vm B.U.heap.size) (hg : T.heap.size ≤ B.U.heap.size)
    (hp : ∃ L, (Q' ∧ Fr n0 L ∧ Old Z n0 B.U.heap) ∧ B.locs = locs ++ L ∧ B.cells = k + rm.cells ∧ B.slots = n + rm.slots ∧ CHr Z EL vm h B.U.vm B.U.heap ∧ (q = true → (C.s.setVm vm).WarmedH B.U.vm)) (hk' : k + rm.cells = k') (hn' : n + rm.slots = n') :
    On C R own b ml rt nm q Z a0 EL n0 B.U.vm B.U B.U.heap k' n' ∧ CHr Z EL vm h B.U.vm B.U.heap ∧ Q' := by
  obtain ⟨-, e1, e2, e3, e4, e5, e6, e7, e8, e9, e10, e11, e12, e13⟩ := X
  obtain ⟨L, ⟨r1, r2, r8⟩, r3, r4, r5, r6, r7⟩ := hp
  subst hk' hn'
  rw [r3, r4, r5] at S'
  rw [e1] at hg
  exact ⟨⟨⟨_, _, S', N.app r2, hS.trans hs (Nat.le_trans hk hg), Nat.le_refl _⟩, rfl, e2, e3, e4, e5, e6, e7, State.Warmed39.trans (t := C.s.setVm vm) e8 hs.1, by rw [hs.1.alike.findClass]; exact e9, e10, e11.trans r6, fun hq => State.WarmedH.trans (t := C.s.setVm vm) (e12 hq) (r7 hq), r8⟩, r6, r1⟩
theorem On.callS (X : On C R own b ml rt nm q Z a0 EL n0 vm T h k n) {l : Launch} (hl0 : C.l = l) {ix W k' n' : Nat} {y : MethodName} {bytes : ByteArray} {maxL : Nat} {ret r : Option FieldType} {ps : List FieldType} {rm : Room} {Q' : Option Value → Heap → (Addr → Prop) → Prop} {ws : List Addr} {argsL sta : List Value} (hi : Ins b pc (.invokestatic ix) 3 pc')
    (hM : Con [] q l Z EL n0 ws y bytes maxL ret rm argsL.toArray h Q') (w1 : (Cond.methodLink own ix y).before a0 Z = true) (w2 : (Cond.static y).before a0 Z = true) (w3 : (Cond.initialized y.cls).before a0 Z = true) (w4 : (Cond.code y bytes maxL ret).before a0 Z = true) (hy : y.cls ≠ "java/lang/invoke/MethodHandle" ∧ y.cls ≠ "java/lang/invoke/VarHandle")
    (hs : ∀ x ∈ ws, Safe Z EL vm h x ∧ x < h.size) (hd : parseMethodDescriptor y.desc = some ⟨ps, r⟩) (hn : argsL.length = ps.length) (hst : sta = argsL.reverse ++ st) (hsz : Ls.size = ml) (hW : 0 + (st.map fun v => v.category).sum = W) (hf : rm.frames + 1 ≤ R.frames) (hl : W + (maxL + 11) + rm.locals ≤ R.locals)
    (hk' : k + rm.cells = k') (hn' : n + rm.slots = n') (hc : k' ≤ R.cells) (hsl : n' ≤ R.slots)
    (g : ∀ vm' T' h' v, On C R own b ml rt nm q Z a0 EL n0 vm' T' h' k' n' → CHr Z EL vm h vm' h' → Q' v h' (Safe Z EL vm' h') → Go C R q Z EL n0 Q T' pc' Ls (v.toList ++ st)) : Go C R q Z EL n0 Q T pc Ls sta := by
  subst hl0 hst
  obtain ⟨-, rfl⟩ := id hi
  obtain ⟨⟨k0, locs, S, N, hS, hk⟩, -, -, -, hml, -⟩ := id X
  obtain ⟨v, vm1, B, -, S', s1, s2, hp, stp⟩ := callSS S X.exec (y := y) X.owned (mv (s := C.s.setVm vm) X.zw w1) (mv (s := C.s.setVm vm) X.zw w2) (mv (s := C.s.setVm vm) X.zw w3) (mv (s := C.s.setVm vm) X.zw w4) hy (backQ (W := W) hM X.zw w4 w3 hf hl X.ew X.chv hs) (g := mkF C.m pc Ls (argsL.reverse ++ st)) rfl (hsz.trans hml.symm) (argsL := argsL) (rest := st) (lenOf hd hn) rfl (by show 2 * 0 + _ ≤ _; omega) (X.dec hi)
    (fun _ _ => ⟨rfl, X.eT, hk' ▸ hc, hn' ▸ hsl⟩)
  obtain ⟨X', r1, r2⟩ := X.after N hS hk S' s1 s2 hp hk' hn'
  exact Go.of (fun t u => stp.trans u) (g _ _ _ v X' r1 r2)
theorem On.callI (X : On C R own b ml rt nm q Z a0 EL n0 vm T h k n) {l : Launch} (hl0 : C.l = l) {ix W k' n' : Nat} {y : MethodName} {bytes : ByteArray} {maxL : Nat} {r : Option FieldType} {ps : List FieldType} {rm : Room} {Q' : Option Value → Heap → (Addr → Prop) → Prop} {ws : List Addr} {a : Addr} {argsL sta : List Value} (hi : Ins b pc (.invokespecial ix) 3 pc')
    (hM : Con [] q l Z EL n0 ws y bytes maxL none rm (.ref a :: argsL).toArray h Q') (w1 : (Cond.methodLink own ix y).before a0 Z = true) (w2 : (Cond.instanceMethod y).before a0 Z = true) (w3 : (Cond.initialized y.cls).before a0 Z = true) (w4 : (Cond.code y bytes maxL none).before a0 Z = true) (hy1 : y.name = "<init>") (hy : y.cls ≠ "java/lang/invoke/MethodHandle" ∧ y.cls ≠ "java/lang/invoke/VarHandle")
    (hs : ∀ x ∈ ws, Safe Z EL vm h x ∧ x < h.size) (hd : parseMethodDescriptor y.desc = some ⟨ps, r⟩) (hn : argsL.length = ps.length) (hst : sta = argsL.reverse ++ .ref a :: st) (hsz : Ls.size = ml) (hW : 0 + (st.map fun v => v.category).sum = W) (hf : rm.frames + 1 ≤ R.frames) (hl : W + (maxL + 11) + rm.locals ≤ R.locals)
    (hk' : k + rm.cells = k') (hn' : n + rm.slots = n') (hc : k' ≤ R.cells) (hsl : n' ≤ R.slots)
    (g : ∀ vm' T' h' v, On C R own b ml rt nm q Z a0 EL n0 vm' T' h' k' n' → CHr Z EL vm h vm' h' → Q' v h' (Safe Z EL vm' h') → Go C R q Z EL n0 Q T' pc' Ls (v.toList ++ st)) : Go C R q Z EL n0 Q T pc Ls sta := by
  subst hl0 hst
  obtain ⟨-, rfl⟩ := id hi
  obtain ⟨⟨k0, locs, S, N, hS, hk⟩, -, -, -, hml, -⟩ := id X
  obtain ⟨v, vm1, B, -, S', s1, s2, hp, stp⟩ := S.specialBackS X.exec (y := y) hy1 X.owned (mv (s := C.s.setVm vm) X.zw w1) (mv (s := C.s.setVm vm) X.zw w2) (mv (s := C.s.setVm vm) X.zw w4) hy (backQ (W := W) hM X.zw w4 w3 hf hl X.ew X.chv hs) (g := mkF C.m pc Ls (argsL.reverse ++ .ref a :: st)) rfl (hsz.trans hml.symm) (Steps.refl _) (a := a) (argsL := argsL) (rest := st) (lenOf hd hn) rfl (by show 2 * 0 + _ ≤ _; omega) (X.dec hi)
    (fun _ _ => ⟨rfl, X.eT, hk' ▸ hc, hn' ▸ hsl⟩)
  obtain ⟨X', r1, r2⟩ := X.after N hS hk S' s1 s2 hp hk' hn'
  exact Go.of (fun t u => stp.trans u) (g _ _ _ v X' r1 r2)
theorem On.callV (X : On C R own b ml rt nm q Z a0 EL n0 vm T h k n) {l : Launch} (hl0 : C.l = l) {ix W k' n' : Nat} {y z : MethodName} {Cl : String} {bytes : ByteArray} {maxL : Nat} {ret r : Option FieldType} {ps : List FieldType} {rm : Room} {Q' : Option Value → Heap → (Addr → Prop) → Prop} {ws : List Addr} {a : Addr} {argsL sta : List Value} (hi : Ins b pc (.invokevirtual ix) 3 pc')
    (hM : Con [] q l Z EL n0 ws z bytes maxL ret rm (.ref a :: argsL).toArray h Q') (E : Exa Z h a Cl) (w1 : (Cond.methodLink own ix y).before a0 Z = true) (w2 : (Cond.declares y).before a0 Z = true) (w5 : (Cond.selects Cl y z).before a0 Z = true) (hnf : NotFace (C.s.setVm vm) y) (w6 : (Cond.instanceMethod z).before a0 Z = true) (w3 : (Cond.initialized z.cls).before a0 Z = true) (w4 : (Cond.code z bytes maxL ret).before a0 Z = true) (hy : y.cls ≠ "java/lang/invoke/MethodHandle" ∧ y.cls ≠ "java/lang/invoke/VarHandle")
    (hs : ∀ x ∈ ws, Safe Z EL vm h x ∧ x < h.size) (hd : parseMethodDescriptor y.desc = some ⟨ps, r⟩) (hn : argsL.length = ps.length) (hst : sta = argsL.reverse ++ .ref a :: st) (hsz : Ls.size = ml) (hW : 0 + (st.map fun v => v.category).sum = W) (hf : rm.frames + 1 ≤ R.frames) (hl : W + (maxL + 11) + rm.locals ≤ R.locals)
    (hk' : k + rm.cells = k') (hn' : n + rm.slots = n') (hc : k' ≤ R.cells) (hsl : n' ≤ R.slots)
    (g : ∀ vm' T' h' v, On C R own b ml rt nm q Z a0 EL n0 vm' T' h' k' n' → CHr Z EL vm h vm' h' → Q' v h' (Safe Z EL vm' h') → Go C R q Z EL n0 Q T' pc' Ls (v.toList ++ st)) : Go C R q Z EL n0 Q T pc Ls sta := by
  subst hl0 hst
  obtain ⟨-, rfl⟩ := id hi
  obtain ⟨⟨k0, locs, S, N, hS, hk⟩, -, -, -, hml, -⟩ := id X
  obtain ⟨cB, kB, q1, q2, q3⟩ := isOf (s := C.s.setVm vm) X.zw X.eT E
  obtain ⟨v, vm1, B, -, S', s1, s2, hp, stp⟩ := S.virtualBackS X.exec (y := y) (z := z) X.owned (mv (s := C.s.setVm vm) X.zw w1) (mv (s := C.s.setVm vm) X.zw w2) hnf (mv (s := C.s.setVm vm) X.zw w5) (mv (s := C.s.setVm vm) X.zw w6) hy (backQ (W := W) hM X.zw w4 w3 hf hl X.ew X.chv hs) q1 q3 (g := mkF C.m pc Ls (argsL.reverse ++ .ref a :: st)) rfl (hsz.trans hml.symm) (Steps.refl _) (argsL := argsL) (rest := st) (lenOf hd hn) rfl (by show 2 * 0 + _ ≤ _; omega) (X.dec hi)
    (fun _ _ => ⟨rfl, X.eT, hk' ▸ hc, hn' ▸ hsl⟩)
  obtain ⟨X', r1, r2⟩ := X.after N hS hk S' s1 s2 hp hk' hn'
  exact Go.of (fun t u => stp.trans u) (g _ _ _ v X' r1 r2)
theorem nfSel {s : State} {Cl : String} {y : MethodName} (hZ : Z.Warmed39 vm) (w : (Cond.selects Cl y y).before a0 Z = true) : NotFace (s.setVm vm) y := notFace_of_selects (args := #[]) (mv (s := s.setVm vm) hZ w)
end Calls
end Jvm.Own
namespace Jvm.Own
open Jvm Jvm.ClassFile Sem Op Lib Jvm.Free Jvm.Stand Jvm.LawKit Jvm.RoadKit Bundle
section Backs
variable {C : Cx} {R : Room} {own : String} {b : ByteArray} {ml : Nat} {rt : Option FieldType} {nm : String} {q : Bool} {Z : State} {a0 : Array Value} {EL : List (String × Nat)} {n0 : Nat} {vm : Vm} {T : State} {h : Heap} {k n : Nat} {Q : Option Value → Heap → (Addr → Prop) → Prop} {pc pc' pt : Nat} {Ls Ls' : Array Slot} {st : List Value}
theorem On.backI (X : On C R own b ml rt nm q Z a0 EL n0 vm T h k n) {ix W k' n' kc ks : Nat} {y : MethodName} {bytes : ByteArray} {maxL : Nat} {r : Option FieldType} {ps : List FieldType} {QQ : Option Value → Heap → List Loc → Prop} {a : Addr} {argsL sta : List Value} (hi : Ins b pc (.invokespecial ix) 3 pc')
    (hK : Back C.l R C.p C.e C.below (C.s.setVm vm) C.args y 3 W (fun P a' => a' = (.ref a :: argsL).toArray ∧ P.U.heap = h ∧ P.cells + kc ≤ R.cells ∧ P.slots + ks ≤ R.slots) (fun P _ v B => ∃ L, QQ v B.U.heap L ∧ B.locs = P.locs ++ L ∧ B.cells = P.cells + kc ∧ B.slots = P.slots + ks))
    (hQ : ∀ v h' L, QQ v h' L → Fr n0 L ∧ CHr Z EL vm h vm h' ∧ Old Z n0 h') (w1 : (Cond.methodLink own ix y).before a0 Z = true) (w2 : (Cond.instanceMethod y).before a0 Z = true) (w4 : (Cond.code y bytes maxL none).before a0 Z = true) (hy1 : y.name = "<init>") (hy : y.cls ≠ "java/lang/invoke/MethodHandle" ∧ y.cls ≠ "java/lang/invoke/VarHandle")
    (hd : parseMethodDescriptor y.desc = some ⟨ps, r⟩) (hn : argsL.length = ps.length) (hst : sta = argsL.reverse ++ .ref a :: st) (hsz : Ls.size = ml) (hW : 0 + (st.map fun v => v.category).sum = W)
    (hk' : k + kc = k') (hn' : n + ks = n') (hc : k' ≤ R.cells) (hsl : n' ≤ R.slots)
    (g : ∀ T' h' v L, On C R own b ml rt nm q Z a0 EL n0 vm T' h' k' n' → QQ v h' L → Go C R q Z EL n0 Q T' pc' Ls (v.toList ++ st)) : Go C R q Z EL n0 Q T pc Ls sta := by
  subst hst hk' hn'
  obtain ⟨-, rfl⟩ := id hi
  obtain ⟨⟨k0, locs, S, N, hS, hk⟩, -, -, -, hml, -⟩ := id X
  obtain ⟨v, vm1, B, -, S', hp, stp⟩ := S.specialBack X.exec (y := y) hy1 X.owned (mv (s := C.s.setVm vm) X.zw w1) (mv (s := C.s.setVm vm) X.zw w2) (mv (s := C.s.setVm vm) X.zw w4) hy hK (g := mkF C.m pc Ls (argsL.reverse ++ .ref a :: st)) rfl (hsz.trans hml.symm) (Steps.refl _) (a := a) (argsL := argsL) (rest := st) (lenOf hd hn) rfl (by show 2 * 0 + _ ≤ _; omega) (X.dec hi)
    (fun _ _ => ⟨rfl, X.eT, hc, hsl⟩)
  obtain ⟨L, r1, r2, r3, r4⟩ := hp
  rw [r2, r3, r4] at S'
  obtain ⟨f1, f2, f3⟩ := hQ v _ L r1
  exact Go.of (fun t u => stp.trans u) (g _ _ v L (X.put S' (N.app f1) hS hk rfl f2 f3) r1)
theorem On.backVt (X : On C R own b ml rt nm q Z a0 EL n0 vm T h k n) {ix W k' n' kc ks : Nat} {y z : MethodName} {Cl : String} {r : Option FieldType} {ps : List FieldType} {QQ : Option Value → Heap → List Loc → Prop} {a : Addr} {argsL sta : List Value} (hi : Ins b pc (.invokevirtual ix) 3 pc')
    (hK : Back C.l R C.p C.e C.below (C.s.setVm vm) C.args z 3 W (fun P a' => a' = (.ref a :: argsL).toArray ∧ P.U.heap = h ∧ P.cells + kc ≤ R.cells ∧ P.slots + ks ≤ R.slots) (fun P _ v B => ∃ L, QQ v B.U.heap L ∧ B.locs = P.locs ++ L ∧ B.cells = P.cells + kc ∧ B.slots = P.slots + ks))
    (hQ : ∀ v h' L, QQ v h' L → Fr n0 L ∧ CHr Z EL vm h vm h' ∧ Old Z n0 h') (E : Exa Z h a Cl) (w1 : (Cond.methodLink own ix y).before a0 Z = true) (w2 : (Cond.declares y).before a0 Z = true) (w5 : (Cond.selects Cl y z).before a0 Z = true) (hnf : NotFace (C.s.setVm vm) y) (w6 : (Cond.instanceMethod z).before a0 Z = true) (hy : y.cls ≠ "java/lang/invoke/MethodHandle" ∧ y.cls ≠ "java/lang/invoke/VarHandle")
    (hd : parseMethodDescriptor y.desc = some ⟨ps, r⟩) (hn : argsL.length = ps.length) (hst : sta = argsL.reverse ++ .ref a :: st) (hsz : Ls.size = ml) (hW : 0 + (st.map fun v => v.category).sum = W)
    (hk' : k + kc = k') (hn' : n + ks = n') (hc : k' ≤ R.cells) (hsl : n' ≤ R.slots)
    (g : ∀ T' h' v L, On C R own b ml rt nm q Z a0 EL n0 vm T' h' k' n' → QQ v h' L → Go C R q Z EL n0 Q T' pc' Ls (v.toList ++ st)) : Go C R q Z EL n0 Q T pc Ls sta := by
  subst hst hk' hn'
  obtain ⟨-, rfl⟩ := id hi
  obtain ⟨⟨k0, locs, S, N, hS, hk⟩, -, -, -, hml, -⟩ := id X
  obtain ⟨cB, kB, q1, q2, q3⟩ := isOf (s := C.s.setVm vm) X.zw X.eT E
  obtain ⟨v, vm1, B, -, S', hp, stp⟩ := S.virtualBack X.exec (y := y) (z := z) X.owned (mv (s := C.s.setVm vm) X.zw w1) (mv (s := C.s.setVm vm) X.zw w2) hnf (mv (s := C.s.setVm vm) X.zw w5) (mv (s := C.s.setVm vm) X.zw w6) hy hK q1 q3 (g := mkF C.m pc Ls (argsL.reverse ++ .ref a :: st)) rfl (hsz.trans hml.symm) (Steps.refl _) (argsL := argsL) (rest := st) (lenOf hd hn) rfl (by show 2 * 0 + _ ≤ _; omega) (X.dec hi)
    (fun _ _ => ⟨rfl, X.eT, hc, hsl⟩)
  obtain ⟨L, r1, r2, r3, r4⟩ := hp
  rw [r2, r3, r4] at S'
  obtain ⟨f1, f2, f3⟩ := hQ v _ L r1
  exact Go.of (fun t u => stp.trans u) (g _ _ v L (X.put S' (N.app f1) hS hk rfl f2 f3) r1)
end Backs
def Str (Z : State) (h : Heap) (x t : Addr) (kb : ClassId) (cs : List Int32) : Prop :=
  Exa Z h x "java/lang/String" ∧ Fld Z h x "java/lang/String" "value" "[B" (.ref t) ∧ Fld Z h x "java/lang/String" "coder" "B" (.int 0) ∧ Arv Z h t kb .byte (Int32.ofNat cs.length) (cs.map fun c => Value.int c.toInt8.toInt32) (.int 0) ∧ ∀ c ∈ cs, ¬ c < 0 ∧ ¬ (255 : Int32) < c
section Strs
variable {Z : State} {h h' : Heap} {x t a : Addr} {kb : ClassId} {cs : List Int32} {ws : List Addr} {sl : Nat} {v : Value}
theorem Str.ext (F : Str Z h x t kb cs) (E : Ext h h') : Str Z h' x t kb cs := ⟨F.1.ext E, F.2.1.ext E, F.2.2.1.ext E, F.2.2.2.1.ext E, F.2.2.2.2⟩
theorem Str.keep (F : Str Z h x t kb cs) (K : Keep h h' ws) (hx : x ∉ ws) (ht : t ∉ ws) : Str Z h' x t kb cs := ⟨F.1.keep K, F.2.1.keep K hx, F.2.2.1.keep K hx, F.2.2.2.1.keep K ht, F.2.2.2.2⟩
theorem Str.wr (F : Str Z h x t kb cs) (W : Wr h h' a sl v) (hx : x ≠ a) (ht : t ≠ a) : Str Z h' x t kb cs := ⟨F.1.wr W, F.2.1.other W (Or.inl hx), F.2.2.1.other W (Or.inl hx), F.2.2.2.1.other W ht, F.2.2.2.2⟩
theorem Str.lt (F : Str Z h x t kb cs) : x < h.size := F.1.lt
theorem Str.ltT (F : Str Z h x t kb cs) : t < h.size := F.2.2.2.1.lt
theorem own_all0 : ∀ c ∈ ([] : List Int32), ¬ c < 0 ∧ ¬ (255 : Int32) < c := fun _ z => nomatch z
theorem own_allS {c : Int32} {l : List Int32} (p : ¬ c < 0 ∧ ¬ (255 : Int32) < c) (r : ∀ x ∈ l, ¬ x < 0 ∧ ¬ (255 : Int32) < x) : ∀ x ∈ c :: l, ¬ x < 0 ∧ ¬ (255 : Int32) < x := fun x hx => (List.mem_cons.mp hx).elim (fun e => e ▸ p) (r x)
theorem sf_nil {EL : List (String × Nat)} {vm : Vm} : ∀ x ∈ ([] : List Addr), Safe Z EL vm h x ∧ x < h.size := fun _ z => nomatch z
theorem sf_cons {EL : List (String × Nat)} {vm : Vm} {l : List Addr} (p : Safe Z EL vm h x ∧ x < h.size) (r : ∀ x ∈ l, Safe Z EL vm h x ∧ x < h.size) : ∀ y ∈ x :: l, Safe Z EL vm h y ∧ y < h.size := fun y hy => (List.mem_cons.mp hy).elim (fun e => e ▸ p) (r y)
theorem up16 {c : Int32} (hc : ¬ c < 0 ∧ ¬ (255 : Int32) < c) : ¬ c < 0 ∧ ¬ (65535 : Int32) < c := ⟨hc.1, fun z => hc.2 (Int32.lt_trans (by decide) z)⟩
end Strs
end Jvm.Own
namespace Jvm.Own
open Jvm Jvm.ClassFile Sem Op Lib Jvm.Free Jvm.Stand Jvm.LawKit Jvm.RoadKit Bundle
section Ldc
variable {C : Cx} {R : Room} {own : String} {b : ByteArray} {ml : Nat} {rt : Option FieldType} {nm : String} {q : Bool} {Z : State} {a0 : Array Value} {EL : List (String × Nat)} {n0 : Nat} {vm : Vm} {T : State} {h : Heap} {k n : Nat} {Q : Option Value → Heap → (Addr → Prop) → Prop} {pc pc' pt : Nat} {Ls Ls' : Array Slot} {st : List Value}
theorem On.ldcS (X : On C R own b ml rt nm q Z a0 EL n0 vm T h k n) (hq : q = false) {ix k' n' nn : Nat} {text : String} {cs : List Int32} (hi : Ins b pc (.ldc ix) 2 pc') (w : (Cond.stringLink own ix text).before a0 Z = true) (wS : ∀ a ∈ Bundle.stringAtoms, a.before a0 Z = true) (hmem : (own, ix) ∈ EL)
    (h1 : ∀ c ∈ text.toList, c.toNat < 256) (h2 : text.toList.map (fun c => Value.int (Jvm.Lit.byteI c.toNat.toUInt16)) = cs.map fun c => Value.int c.toInt8.toInt32) (h3 : ∀ c ∈ cs, ¬ c < 0 ∧ ¬ (255 : Int32) < c) (h4 : cs.length ≤ 4000) (h5 : 4 * text.toList.length ≤ nn) (h6 : nn ≤ 536870912)
    (hk' : k + 2 = k') (hn' : n + (nn + 4) = n') (hc : k' ≤ R.cells) (hsl : n' ≤ R.slots)
    (g : ∀ vm' T' h' a t kb, On C R own b ml rt nm q Z a0 EL n0 vm' T' h' k' n' → Ext h h' → CHr Z EL vm h vm' h' → Str Z h' a t kb cs → (∀ x, Safe Z EL vm' h' x → x ≠ a ∧ x ≠ t) → Go C R q Z EL n0 Q T' pc' Ls (.ref a :: st)) : Go C R q Z EL n0 Q T pc Ls st := by
  subst hk' hn' hq
  obtain ⟨-, rfl⟩ := id hi
  obtain ⟨⟨k0, locs, S, N, hS, hk⟩, -⟩ := id X
  have hz : ¬ (Int32.ofNat cs.length) < 0 := by
    intro z
    have z1 := Int32.lt_iff_toInt_lt.mp z
    have e1 : (Int32.ofNat cs.length).toInt = cs.length := Int32.toInt_ofNat_small (by omega)
    have e2 : (0 : Int32).toInt = 0 := by decide
    omega
  have hl : (Int32.ofNat cs.length).toNatClampNeg = (cs.map fun c => Value.int c.toInt8.toInt32).length := by
    have e1 : (Int32.ofNat cs.length).toInt = cs.length := Int32.toInt_ofNat_small (by omega)
    rw [List.length_map]
    show (Int32.ofNat cs.length).toInt.toNat = _
    rw [e1]; rfl
  obtain ⟨a, T', h', k1, t, kb, S', e', E', hS', hk1, hZ', ho', A1, A2, A3, A4, -, -, hC, -, hne, st'⟩ := ldcCH S X.exec X.zw X.owned w wS X.eT hS hk X.ew hmem X.chv ⟨h1, h2⟩ hz hl (g := mkF C.m pc Ls st) rfl (X.dec hi) h5 h6 hc hsl
  refine Go.of st' (g T'.vm T' h' a t kb ?_ E' hC ⟨A1, A3, A2, A4, h3⟩ hne)
  obtain ⟨-, -, e2, e3, e4, e5, e6, e7, -, -, e10, e11, -, e13⟩ := X
  exact ⟨⟨k1, locs, S', N, hS', hk1⟩, e', e2, e3, e4, e5, e6, e7, hZ', ho', e10, e11.trans hC, (fun z => nomatch z), e13.ext E'⟩
end Ldc
theorem own_narB (x : Int32) : nar .byte x.toInt8.toInt32 = x.toInt8.toInt32 := Value.int.inj (XT.narrow_b x)
section Starts
variable {s : State} {args : Array Value}
theorem own_eqI {a : Term} {c : Int32} (h : (Cond.eq a (.int c)).value args s none s [] = some true) : a.eval args s none [] s = some (.int c) := by
  obtain ⟨x, y, e1, e2, k1, -⟩ := cmp_v (Or.inl h)
  have e3 : y = .int c := Option.some.inj (e2.symm.trans (Term.int_eval c))
  subst e3
  cases x with
  | int z => rw [e1]; rw [gotT (Cond.eq_ints e1 (Term.int_eval c)) h]
  | _ => simp [Kin, Value.isRef] at k1
end Starts
section Kinds
variable {Z : State} {a0 : Array Value}
end Kinds
end Jvm.Own
namespace Jvm.Own
open Jvm Jvm.ClassFile Sem Op Lib Jvm.Free Jvm.Stand Jvm.LawKit Jvm.RoadKit Bundle
section Faces
variable {Z : State} {a0 : Array Value} {vm : Vm}
theorem nfOf {s : State} {Cl : String} {x y z : MethodName} (hZ : Z.Warmed39 vm) (w : (Cond.selects Cl x z).before a0 Z = true) (hz : z.cls = y.cls) : NotFace (s.setVm vm) y := fun r0 h0 => by
  obtain ⟨c2, r2, m2, -, -, q3, -, kP, hkP, hkPi⟩ := Cond.selects_spec (mv (s := s.setVm vm) (args := #[]) hZ w)
  have e1 := findClass_of_methodNamed q3
  have e2 := findClass_of_methodNamed h0
  rw [hz] at e1
  have e5 : m2.cls = r0.cls := Option.some.inj (e1.symm.trans e2)
  rw [e5] at hkP
  exact ⟨kP, hkP, hkPi⟩
theorem sameOf {Cl : String} {x y z : MethodName} (wd : (Cond.declares y).before a0 Z = true) (hy : y.cls ≠ "java/lang/invoke/MethodHandle" ∧ y.cls ≠ "java/lang/invoke/VarHandle") (w : (Cond.selects Cl x z).before a0 Z = true) (hz : z.cls = y.cls) : (Cond.sameMethod y.cls y.cls y.name y.desc).before a0 Z = true := by
  obtain ⟨r0, r, hn, -⟩ := Cond.declares_spec wd
  obtain ⟨c2, r2, m2, -, -, q3, -, kP, hkP, hkPi⟩ := Cond.selects_spec w
  have e1 := findClass_of_methodNamed q3
  have e2 := findClass_of_methodNamed hn
  rw [hz] at e1
  have e3 := State.methodFound?_of_named hn hy
  have e4 : Option.some m2.cls = some r0.cls := e1.symm.trans e2
  have e5 : m2.cls = r0.cls := Option.some.inj e4
  rw [e5] at hkP
  have hn' : Z.methodNamed? ⟨y.cls, y.name, y.desc⟩ = some r0 := hn
  apply Cond.before_iff.mpr
  simp [Cond.value, e2, e3, hn', hkP, hkPi]
theorem selP {Cl : String} {y : MethodName} (hy : y.cls ≠ "java/lang/invoke/MethodHandle" ∧ y.cls ≠ "java/lang/invoke/VarHandle") (w1 : (Cond.selects Cl y y).before a0 Z = true) (w2 : (Cond.instanceMethod y).before a0 Z = true) (w3 : (Cond.privateMethod y).before a0 Z = true) : (Cond.selects y.cls y y).before a0 Z = true := by
  obtain ⟨c2, r2, m2, -, -, q3, -, kP, hkP, hkPi⟩ := Cond.selects_spec w1
  obtain ⟨mk, methM, hnamed, hmethM, -, -⟩ := Cond.instanceMethod_spec w2
  obtain rfl : mk = m2 := Option.some.inj (hnamed.symm.trans q3)
  have e1 := findClass_of_methodNamed q3
  have e3 := State.methodFound?_of_named q3 hy
  have e4 : selectMethod {} Z.vm mk.cls mk = .method mk := selectMethod_private hmethM (Cond.privateMethod_at w3 mk methM q3 hmethM)
  apply Cond.before_iff.mpr
  simp [Cond.value, e1, e3, q3, e4, hkP, hkPi]
end Faces
section Calls2
variable {C : Cx} {R : Room} {own : String} {b : ByteArray} {ml : Nat} {rt : Option FieldType} {nm : String} {q : Bool} {Z : State} {a0 : Array Value} {EL : List (String × Nat)} {n0 : Nat} {vm : Vm} {T : State} {h : Heap} {k n : Nat} {Q : Option Value → Heap → (Addr → Prop) → Prop} {pc pc' pt : Nat} {Ls Ls' : Array Slot} {st : List Value}
theorem On.callP (X : On C R own b ml rt nm q Z a0 EL n0 vm T h k n) {l : Launch} (hl0 : C.l = l) {ix W k' n' : Nat} {y : MethodName} {Cl : String} {bytes : ByteArray} {maxL : Nat} {ret r : Option FieldType} {ps : List FieldType} {rm : Room} {Q' : Option Value → Heap → (Addr → Prop) → Prop} {ws : List Addr} {a : Addr} {argsL sta : List Value} (hi : Ins b pc (.invokevirtual ix) 3 pc')
    (hM : Con [] q l Z EL n0 ws y bytes maxL ret rm (.ref a :: argsL).toArray h Q') (E : Exa Z h a Cl) (w1 : (Cond.methodLink own ix y).before a0 Z = true) (w2 : (Cond.instanceMethod y).before a0 Z = true) (w5 : (Cond.selects y.cls y y).before a0 Z = true) (w6 : (Cond.privateMethod y).before a0 Z = true) (w3 : (Cond.initialized y.cls).before a0 Z = true) (w4 : (Cond.code y bytes maxL ret).before a0 Z = true) (hy : y.cls ≠ "java/lang/invoke/MethodHandle" ∧ y.cls ≠ "java/lang/invoke/VarHandle")
    (hs : ∀ x ∈ ws, Safe Z EL vm h x ∧ x < h.size) (hd : parseMethodDescriptor y.desc = some ⟨ps, r⟩) (hn : argsL.length = ps.length) (hst : sta = argsL.reverse ++ .ref a :: st) (hsz : Ls.size = ml) (hW : 0 + (st.map fun v => v.category).sum = W) (hf : rm.frames + 1 ≤ R.frames) (hl : W + (maxL + 11) + rm.locals ≤ R.locals)
    (hk' : k + rm.cells = k') (hn' : n + rm.slots = n') (hc : k' ≤ R.cells) (hsl : n' ≤ R.slots)
    (g : ∀ vm' T' h' v, On C R own b ml rt nm q Z a0 EL n0 vm' T' h' k' n' → CHr Z EL vm h vm' h' → Q' v h' (Safe Z EL vm' h') → Go C R q Z EL n0 Q T' pc' Ls (v.toList ++ st)) : Go C R q Z EL n0 Q T pc Ls sta := by
  subst hl0 hst
  obtain ⟨-, rfl⟩ := id hi
  obtain ⟨⟨k0, locs, S, N, hS, hk⟩, -, -, -, hml, -⟩ := id X
  obtain ⟨cell, hc1, hc2⟩ := E.cell
  obtain ⟨v, vm1, B, -, S', s1, s2, hp, stp⟩ := S.privateBackS X.exec (y := y) X.owned (mv (s := C.s.setVm vm) X.zw w1) (mv (s := C.s.setVm vm) X.zw w2) (mv (s := C.s.setVm vm) X.zw w5) (Cond.privateMethod_at (args := #[]) (mvP (s := C.s.setVm vm) X.zw w6)) (mv (s := C.s.setVm vm) X.zw w4) hy (backQ (W := W) hM X.zw w4 w3 hf hl X.ew X.chv hs) (g := mkF C.m pc Ls (argsL.reverse ++ .ref a :: st)) rfl (hsz.trans hml.symm) (Steps.refl _) (a := a) (by rw [X.eT]; exact hc1) hc2 (argsL := argsL) (rest := st) (lenOf hd hn) rfl (by show 2 * 0 + _ ≤ _; omega) (X.dec hi)
    (fun _ _ => ⟨rfl, X.eT, hk' ▸ hc, hn' ▸ hsl⟩)
  obtain ⟨X', r1, r2⟩ := X.after N hS hk S' s1 s2 hp hk' hn'
  exact Go.of (fun t u => stp.trans u) (g _ _ _ v X' r1 r2)
theorem On.callU (X : On C R own b ml rt nm q Z a0 EL n0 vm T h k n) {l : Launch} (hl0 : C.l = l) {ix W k' n' : Nat} {y : MethodName} {Cl : String} {bytes : ByteArray} {maxL : Nat} {ret r : Option FieldType} {ps : List FieldType} {rm : Room} {Q' : Option Value → Heap → (Addr → Prop) → Prop} {ws : List Addr} {a : Addr} {argsL sta : List Value} (hi : Ins b pc (.invokespecial ix) 3 pc')
    (hM : Con [] q l Z EL n0 ws y bytes maxL ret rm (.ref a :: argsL).toArray h Q') (E : Exa Z h a Cl) (w1 : (Cond.methodLink own ix y).before a0 Z = true) (w5 : (Cond.sameMethod y.cls y.cls y.name y.desc).before a0 Z = true) (w2 : (Cond.instanceMethod y).before a0 Z = true) (w6 : (Cond.superclass own y.cls).before a0 Z = true) (hy1 : y.name ≠ "<init>") (w3 : (Cond.initialized y.cls).before a0 Z = true) (w4 : (Cond.code y bytes maxL ret).before a0 Z = true)
    (hs : ∀ x ∈ ws, Safe Z EL vm h x ∧ x < h.size) (hd : parseMethodDescriptor y.desc = some ⟨ps, r⟩) (hn : argsL.length = ps.length) (hst : sta = argsL.reverse ++ .ref a :: st) (hsz : Ls.size = ml) (hW : 0 + (st.map fun v => v.category).sum = W) (hf : rm.frames + 1 ≤ R.frames) (hl : W + (maxL + 11) + rm.locals ≤ R.locals)
    (hk' : k + rm.cells = k') (hn' : n + rm.slots = n') (hc : k' ≤ R.cells) (hsl : n' ≤ R.slots)
    (g : ∀ vm' T' h' v, On C R own b ml rt nm q Z a0 EL n0 vm' T' h' k' n' → CHr Z EL vm h vm' h' → Q' v h' (Safe Z EL vm' h') → Go C R q Z EL n0 Q T' pc' Ls (v.toList ++ st)) : Go C R q Z EL n0 Q T pc Ls sta := by
  subst hl0 hst
  obtain ⟨-, rfl⟩ := id hi
  obtain ⟨⟨k0, locs, S, N, hS, hk⟩, -, -, -, hml, -⟩ := id X
  obtain ⟨v, vm1, B, -, S', s1, s2, hp, stp⟩ := superBackS S X.exec X.zw (y := y) X.owned w1 w5 w2 w6 hy1 (backQ (W := W) hM X.zw w4 w3 hf hl X.ew X.chv hs) X.eT (RoadKit.Ins.self E) (g := mkF C.m pc Ls (argsL.reverse ++ .ref a :: st)) rfl (hsz.trans hml.symm) w4 (argsL := argsL) (rest := st) (lenOf hd hn) rfl (by show 2 * 0 + _ ≤ _; omega) (X.dec hi)
    (fun _ _ => ⟨rfl, X.eT, hk' ▸ hc, hn' ▸ hsl⟩)
  obtain ⟨X', r1, r2⟩ := X.after N hS hk S' s1 s2 hp hk' hn'
  exact Go.of (fun t u => stp.trans u) (g _ _ _ v X' r1 r2)
theorem On.arraycopy (X : On C R own b ml rt nm q Z a0 EL n0 vm T h k n) {ix W : Nat} {a d : Addr} {ka kd : ClassId} {ty : FieldType} {z z' sp dp nn : Int32} {vs vd us : List Value} {dv dd : Value} (hi : Ins b pc (.invokestatic ix) 3 pc') (w1 : (Cond.methodLink own ix Jvm.Stand.acN).before a0 Z = true) (w2 : (Cond.native Jvm.Stand.acN).before a0 Z = true) (w3 : (Cond.static Jvm.Stand.acN).before a0 Z = true) (w4 : (Cond.initialized "java/lang/System").before a0 Z = true)
    (A : Arv Z h a ka ty z vs dv) (B : Arv Z h d kd ty z' vd dd) (hty : refKind ty = false) (h1 : ¬ sp < 0) (h2 : ¬ dp < 0) (h3 : ¬ nn < 0) (h4 : sp.toNatClampNeg + nn.toNatClampNeg ≤ z.toNatClampNeg) (h5 : dp.toNatClampNeg + nn.toNatClampNeg ≤ z'.toNatClampNeg)
    (hus : us = (List.range nn.toNatClampNeg).map fun i => vs.getD (sp.toNatClampNeg + i) dv) (hl : dp.toNatClampNeg + nn.toNatClampNeg ≤ vd.length) (ge : n0 ≤ d) (Sf : Safe Z EL vm h d) (hsz : Ls.size = ml) (hf : 1 ≤ R.frames) (hW : 0 + (st.map fun v => v.category).sum = W) (hlo : W + (nativeFrameWords "java/lang/System" "arraycopy" 5 + 11) ≤ R.locals)
    (g : ∀ T' h', On C R own b ml rt nm q Z a0 EL n0 vm T' h' k n → Keep h h' [d] → Arv Z h' d kd ty z' (vd.take dp.toNatClampNeg ++ us ++ vd.drop (dp.toNatClampNeg + nn.toNatClampNeg)) dd → Go C R q Z EL n0 Q T' pc' Ls st) : Go C R q Z EL n0 Q T pc Ls (.int nn :: .int dp :: .ref d :: .int sp :: .ref a :: st) := by
  obtain ⟨-, rfl⟩ := id hi
  obtain ⟨⟨k0, locs, S, N, hS, hk⟩, -, -, -, hml, -⟩ := id X
  obtain ⟨T', h', L, S', e', N', K', V', st'⟩ := cpA S X.exec X.zw X.owned w1 w2 w3 w4 X.eT A B (Or.inl ⟨rfl, hty⟩) h1 h2 h3 h4 h5 hus hl N ge (g := mkF C.m pc Ls (.int nn :: .int dp :: .ref d :: .int sp :: .ref a :: st)) rfl (hsz.trans hml.symm) rfl (X.dec hi) hf (W := W) (by show 2 * 0 + _ ≤ _; omega) hlo
  exact Go.of st' (g T' h' (X.put S' N' hS hk e' (CHr.keep K' (sfS Sf sf0) X.chv) (X.old.keep K' (allS ge all0))) K' V')
end Calls2
end Jvm.Own
namespace Jvm.Own
open Jvm Jvm.ClassFile Sem Op Lib Jvm.Free Jvm.Stand Jvm.LawKit Jvm.RoadKit Bundle Jvm.Free.Exc
def ConK (wl : List Jvm.Cond) (q : Bool) (l : Launch) (Z : State) (EL : List (String × Nat)) (n0 : Nat) (ws : List Addr) (y : MethodName) (bytes : ByteArray) (maxL : Nat) (ret : Option FieldType) (rm : Room) (as' : Array Value) (h : Heap) (Q : Option Value → Heap → (Addr → Prop) → Prop) : Prop :=
  MetFree l y (head1 (Cond.code y bytes maxL ret :: wl) rm) (fun a U => a = as' ∧ Z.Warmed39 U.vm ∧ U.heap = h ∧ CHv Z EL U.vm h ∧ ∀ x ∈ ws, Safe Z EL U.vm h x) (fun _ _ bl _ _ => Z.vm.FramesKnown bl)
    (fun _ U o U' => ∃ v L, o = .returned v ∧ (Q v U'.heap (Safe Z EL U'.vm U'.heap) ∧ Fr n0 L ∧ Old Z n0 U'.heap) ∧ CHr Z EL U.vm U.heap U'.vm U'.heap ∧ EndQ q U o U' L rm.cells rm.slots)
theorem Con.introK {wl : List Jvm.Cond} {q : Bool} {l : Launch} {Z : State} {a0 : Array Value} {EL : List (String × Nat)} {n0 : Nat} {ws : List Addr} {y : MethodName} {bytes : ByteArray} {maxL : Nat} {ret : Option FieldType} {rm : Room} {as' : Array Value} {h : Heap} {Q : Option Value → Heap → (Addr → Prop) → Prop} {Ls : Array Slot}
    (hp : plainFor y = true) (hEL : EW Z a0 EL) (hO : Old Z n0 h) (ef : ∀ m, entryFrame m as' maxL = mkF m 0 Ls [])
    (body : ∀ (C : Cx) (vm : Vm) (T : State), C.l = l → On C rm y.cls bytes maxL ret y.name q Z a0 EL n0 vm T h 0 0 → (∀ x ∈ ws, Safe Z EL vm h x) → ThS Z C.s.heap → Z.vm.FramesKnown C.below → Go C rm q Z EL n0 Q T 0 Ls []) : ConK wl q l Z EL n0 ws y bytes maxL ret rm as' h Q := by
  refine MetFree.of_bodySF hp hisR ?_
  intro p e s m args below meth c s₁ Bd hml0 hP hK
  obtain ⟨rfl, hZ, rfl, hC, hw⟩ := hP
  have e0 : s₁.heap = s.heap := by rw [Bd.state]; rfl
  have S0 : Stand p l e rm s m args below meth c s₁ [] 0 0 := Stand.of_body Bd
  have g := body (p, l, e, s, m, args, below, meth, c) s.vm s₁ rfl ⟨⟨0, [], S0, Fr.nil n0, (State.WarmedH.refl s).since 0, Nat.zero_le _⟩, e0, Bd.exec, Bd.bytes, hml0, Bd.returns, (name_of_methodNamed Bd.named Bd.method).1, Bd.notSynchronized, hZ, findClass_of_methodNamed Bd.named, hEL, CHr.refl hC, fun _ => State.WarmedH.refl s, hO⟩ hw (ThS.start.ext hO.2) hK
  obtain ⟨s2, o, g1, g2, g3, v, L, g4, g5, g6, g7⟩ := g
  refine ⟨s2, o, castTop (ef m) g1, g2, g3, v, L, g4, g5, g6, g7⟩
theorem backQK {q : Bool} {l : Launch} {Z : State} {a0 : Array Value} {EL : List (String × Nat)} {n0 : Nat} {ws : List Addr} {y : MethodName} {bytes : ByteArray} {maxL : Nat} {ret : Option FieldType} {rm R : Room} {as' : Array Value} {h : Heap} {Q : Option Value → Heap → (Addr → Prop) → Prop} {p : Program} {e : Env} {below : List Frame} {s : State} {args : Array Value} {vm : Vm} {len W : Nat}
    (hM : ConK [] q l Z EL n0 ws y bytes maxL ret rm as' h Q) (hZ : Z.Warmed39 vm) (wc : (Cond.code y bytes maxL ret).before a0 Z = true) (wz : (Cond.initialized y.cls).before a0 Z = true) (hf : rm.frames + 1 ≤ R.frames) (hl : W + (maxL + 11) + rm.locals ≤ R.locals) (hEL : EW Z a0 EL) (H : CHv Z EL vm h) (hs : ∀ x ∈ ws, Safe Z EL vm h x ∧ x < h.size) (hTK : vm.MethodsKnown) (hBelow : vm.FramesKnown below) :
    BackS l R p e below (s.setVm vm) args y len W (fun A a => a = as' ∧ A.U.heap = h ∧ A.cells + rm.cells ≤ R.cells ∧ A.slots + rm.slots ≤ R.slots)
      (fun A _ v B => ∃ L, (Q v B.U.heap (Safe Z EL B.U.vm B.U.heap) ∧ Fr n0 L ∧ Old Z n0 B.U.heap) ∧ B.locs = A.locs ++ L ∧ B.cells = A.cells + rm.cells ∧ B.slots = A.slots + rm.slots ∧ CHr Z EL vm h B.U.vm B.U.heap ∧ (q = true → (s.setVm vm).WarmedH B.U.vm)) :=
  BackS.of_freeWG (bytes := bytes) (maxL := maxL) (ret := ret) (E := fun _ first o t L k n => k = rm.cells ∧ n = rm.slots ∧ (∃ v, o = .returned v ∧ (Q v t.heap (Safe Z EL t.vm t.heap) ∧ Fr n0 L ∧ Old Z n0 t.heap)) ∧ CHr Z EL first.vm first.heap t.vm t.heap ∧ (q = true → first.WarmedH t.vm)) hM hf hl
    (fun m meth c A a Y hp => have hU : Z.Warmed39 A.U.vm := wtrans (s := s.setVm vm) hZ Y.warmed
      ⟨by show (Cond.and _ .tt).before a A.U = true; rw [Cond.before_and, mv hU wc]; rfl, mv hU wc, mv hU wz, hp.2.2.1, hp.2.2.2⟩)
    (fun m meth c A a g mk Y hp => ⟨hp.1, wtrans (s := s.setVm vm) hZ Y.warmed, hp.2.1, (CHv.at Y hZ hEL H).1, fun x hx => (CHv.at Y hZ hEL H).safe (hs x hx).2 (hs x hx).1⟩) (fun m meth c A a g mk Y _ hg => (known_frames Y hg hTK hBelow).2.alikeC (wtrans (s := s.setVm vm) hZ Y.warmed).alike.symm)
    (fun _ _ _ _ ⟨v, L, h1, h2, h3, h4⟩ => ⟨L, _, _, h4.1, rfl, rfl, ⟨v, h1, h2⟩, h3, fun hq => (h4.2 hq).2.1⟩)
    (fun m meth c A a g mk v t L k n Y hp _ _ ⟨e1, e2, ⟨v', e3, e4⟩, e5, e6⟩ => by
      cases e3; subst e1 e2
      refine ⟨L, e4, rfl, rfl, rfl, (CHv.at Y hZ hEL H).trans ?_, fun hq => State.WarmedH.trans (t := A.U) Y.warmed (e6 hq)⟩
      rw [← hp.2.1]; exact e5)
section CallsK
variable {C : Cx} {R : Room} {own : String} {b : ByteArray} {ml : Nat} {rt : Option FieldType} {nm : String} {q : Bool} {Z : State} {a0 : Array Value} {EL : List (String × Nat)} {n0 : Nat} {vm : Vm} {T : State} {h : Heap} {k n : Nat} {Q : Option Value → Heap → (Addr → Prop) → Prop} {pc pc' pt : Nat} {Ls Ls' : Array Slot} {st : List Value}
theorem On.callIK (X : On C R own b ml rt nm q Z a0 EL n0 vm T h k n) {l : Launch} (hl0 : C.l = l) (hKn : Z.vm.MethodsKnown) (hFK : Z.vm.FramesKnown C.below) {ix W k' n' : Nat} {y : MethodName} {bytes : ByteArray} {maxL : Nat} {r : Option FieldType} {ps : List FieldType} {rm : Room} {Q' : Option Value → Heap → (Addr → Prop) → Prop} {ws : List Addr} {a : Addr} {argsL sta : List Value} (hi : Ins b pc (.invokespecial ix) 3 pc')
    (hM : ConK [] q l Z EL n0 ws y bytes maxL none rm (.ref a :: argsL).toArray h Q') (w1 : (Cond.methodLink own ix y).before a0 Z = true) (w2 : (Cond.instanceMethod y).before a0 Z = true) (w3 : (Cond.initialized y.cls).before a0 Z = true) (w4 : (Cond.code y bytes maxL none).before a0 Z = true) (hy1 : y.name = "<init>") (hy : y.cls ≠ "java/lang/invoke/MethodHandle" ∧ y.cls ≠ "java/lang/invoke/VarHandle")
    (hs : ∀ x ∈ ws, Safe Z EL vm h x ∧ x < h.size) (hd : parseMethodDescriptor y.desc = some ⟨ps, r⟩) (hn : argsL.length = ps.length) (hst : sta = argsL.reverse ++ .ref a :: st) (hsz : Ls.size = ml) (hW : 0 + (st.map fun v => v.category).sum = W) (hf : rm.frames + 1 ≤ R.frames) (hl : W + (maxL + 11) + rm.locals ≤ R.locals)
    (hk' : k + rm.cells = k') (hn' : n + rm.slots = n') (hc : k' ≤ R.cells) (hsl : n' ≤ R.slots)
    (g : ∀ vm' T' h' v, On C R own b ml rt nm q Z a0 EL n0 vm' T' h' k' n' → CHr Z EL vm h vm' h' → Q' v h' (Safe Z EL vm' h') → Go C R q Z EL n0 Q T' pc' Ls (v.toList ++ st)) : Go C R q Z EL n0 Q T pc Ls sta := by
  subst hl0 hst
  obtain ⟨-, rfl⟩ := id hi
  obtain ⟨⟨k0, locs, S, N, hS, hk⟩, -, -, -, hml, -⟩ := id X
  obtain ⟨v, vm1, B, -, S', s1, s2, hp, stp⟩ := S.specialBackS X.exec (y := y) hy1 X.owned (mv (s := C.s.setVm vm) X.zw w1) (mv (s := C.s.setVm vm) X.zw w2) (mv (s := C.s.setVm vm) X.zw w4) hy (backQK (W := W) hM X.zw w4 w3 hf hl X.ew X.chv hs (hKn.alikeC X.zw.alike) (hFK.alikeC X.zw.alike)) (g := mkF C.m pc Ls (argsL.reverse ++ .ref a :: st)) rfl (hsz.trans hml.symm) (Steps.refl _) (a := a) (argsL := argsL) (rest := st) (lenOf hd hn) rfl (by show 2 * 0 + _ ≤ _; omega) (X.dec hi)
    (fun _ _ => ⟨rfl, X.eT, hk' ▸ hc, hn' ▸ hsl⟩)
  obtain ⟨X', r1, r2⟩ := X.after N hS hk S' s1 s2 hp hk' hn'
  exact Go.of (fun t u => stp.trans u) (g _ _ _ v X' r1 r2)
theorem On.callVU (X : On C R own b ml rt nm q Z a0 EL n0 vm T h k n) {l : Launch} (hl0 : C.l = l) {ix W k' n' : Nat} {y z : MethodName} {Cl : String} {bytes : ByteArray} {maxL : Nat} {ret r : Option FieldType} {ps : List FieldType} {rm : Room} {Q' : Option Value → Heap → (Addr → Prop) → Prop} {ws : List Addr} {a : Addr} {argsL sta : List Value} (hi : Ins b pc (.invokevirtual ix) 3 pc')
    (hM : Con [] q l Z EL n0 ws z bytes maxL ret rm (.ref a :: argsL).toArray h Q') (E : Exa Z h a Cl) (w1 : (Cond.methodLink own ix y).before a0 Z = true) {ow : String} (w2 : (Cond.declares ⟨ow, y.name, y.desc⟩).before a0 Z = true) (w8 : (Cond.sameMethod y.cls ow y.name y.desc).before a0 Z = true) (w8k : ((Cond.sameMethod y.cls ow y.name y.desc).onTables && (Cond.sameMethod y.cls ow y.name y.desc).keepsFace) = true) (w5 : (Cond.selects Cl y z).before a0 Z = true) (w6 : (Cond.instanceMethod z).before a0 Z = true) (w3 : (Cond.initialized z.cls).before a0 Z = true) (w4 : (Cond.code z bytes maxL ret).before a0 Z = true) (hy : ow ≠ "java/lang/invoke/MethodHandle" ∧ ow ≠ "java/lang/invoke/VarHandle")
    (hs : ∀ x ∈ ws, Safe Z EL vm h x ∧ x < h.size) (hd : parseMethodDescriptor y.desc = some ⟨ps, r⟩) (hn : argsL.length = ps.length) (hst : sta = argsL.reverse ++ .ref a :: st) (hsz : Ls.size = ml) (hW : 0 + (st.map fun v => v.category).sum = W) (hf : rm.frames + 1 ≤ R.frames) (hl : W + (maxL + 11) + rm.locals ≤ R.locals)
    (hk' : k + rm.cells = k') (hn' : n + rm.slots = n') (hc : k' ≤ R.cells) (hsl : n' ≤ R.slots)
    (g : ∀ vm' T' h' v, On C R own b ml rt nm q Z a0 EL n0 vm' T' h' k' n' → CHr Z EL vm h vm' h' → Q' v h' (Safe Z EL vm' h') → Go C R q Z EL n0 Q T' pc' Ls (v.toList ++ st)) : Go C R q Z EL n0 Q T pc Ls sta := by
  subst hl0 hst
  obtain ⟨-, rfl⟩ := id hi
  obtain ⟨⟨k0, locs, S, N, hS, hk⟩, -, -, -, hml, -⟩ := id X
  obtain ⟨cB, kB, q1, q2, q3⟩ := isOf (s := C.s.setVm vm) X.zw X.eT E
  obtain ⟨v, vm1, B, -, S', s1, s2, hp, stp⟩ := S.virtualBackUpS X.exec (x := y) (y := z) (owner := ow) X.owned (mv (s := C.s.setVm vm) X.zw w1) (mv (s := C.s.setVm vm) X.zw w8 w8k) (mv (s := C.s.setVm vm) X.zw w2) hy (mv (s := C.s.setVm vm) X.zw w5) (mv (s := C.s.setVm vm) X.zw w6) (backQ (W := W) hM X.zw w4 w3 hf hl X.ew X.chv hs) q1 q3 (g := mkF C.m pc Ls (argsL.reverse ++ .ref a :: st)) rfl (hsz.trans hml.symm) (Steps.refl _) (argsL := argsL) (rest := st) (lenOf hd hn) rfl (by show 2 * 0 + _ ≤ _; omega) (X.dec hi)
    (fun _ _ => ⟨rfl, X.eT, hk' ▸ hc, hn' ▸ hsl⟩)
  obtain ⟨X', r1, r2⟩ := X.after N hS hk S' s1 s2 hp hk' hn'
  exact Go.of (fun t u => stp.trans u) (g _ _ _ v X' r1 r2)
theorem On.backVU (X : On C R own b ml rt nm q Z a0 EL n0 vm T h k n) {ix W k' n' kc ks : Nat} {y z : MethodName} {Cl : String} {r : Option FieldType} {ps : List FieldType} {QQ : Option Value → Heap → List Loc → Prop} {a : Addr} {argsL sta : List Value} (hi : Ins b pc (.invokevirtual ix) 3 pc')
    (hK : Back C.l R C.p C.e C.below (C.s.setVm vm) C.args z 3 W (fun P a' => a' = (.ref a :: argsL).toArray ∧ P.U.heap = h ∧ P.cells + kc ≤ R.cells ∧ P.slots + ks ≤ R.slots) (fun P _ v B => ∃ L, QQ v B.U.heap L ∧ B.locs = P.locs ++ L ∧ B.cells = P.cells + kc ∧ B.slots = P.slots + ks))
    (hQ : ∀ v h' L, QQ v h' L → Fr n0 L ∧ CHr Z EL vm h vm h' ∧ Old Z n0 h') (E : Exa Z h a Cl) (w1 : (Cond.methodLink own ix y).before a0 Z = true) {ow : String} (w2 : (Cond.declares ⟨ow, y.name, y.desc⟩).before a0 Z = true) (w8 : (Cond.sameMethod y.cls ow y.name y.desc).before a0 Z = true) (w8k : ((Cond.sameMethod y.cls ow y.name y.desc).onTables && (Cond.sameMethod y.cls ow y.name y.desc).keepsFace) = true) (w5 : (Cond.selects Cl y z).before a0 Z = true) (w6 : (Cond.instanceMethod z).before a0 Z = true) (hy : ow ≠ "java/lang/invoke/MethodHandle" ∧ ow ≠ "java/lang/invoke/VarHandle")
    (hd : parseMethodDescriptor y.desc = some ⟨ps, r⟩) (hn : argsL.length = ps.length) (hst : sta = argsL.reverse ++ .ref a :: st) (hsz : Ls.size = ml) (hW : 0 + (st.map fun v => v.category).sum = W)
    (hk' : k + kc = k') (hn' : n + ks = n') (hc : k' ≤ R.cells) (hsl : n' ≤ R.slots)
    (g : ∀ T' h' v L, On C R own b ml rt nm q Z a0 EL n0 vm T' h' k' n' → QQ v h' L → Go C R q Z EL n0 Q T' pc' Ls (v.toList ++ st)) : Go C R q Z EL n0 Q T pc Ls sta := by
  subst hst hk' hn'
  obtain ⟨-, rfl⟩ := id hi
  obtain ⟨⟨k0, locs, S, N, hS, hk⟩, -, -, -, hml, -⟩ := id X
  obtain ⟨cB, kB, q1, q2, q3⟩ := isOf (s := C.s.setVm vm) X.zw X.eT E
  obtain ⟨v, vm1, B, -, S', hp, stp⟩ := S.virtualBackUp X.exec (x := y) (y := z) (owner := ow) X.owned (mv (s := C.s.setVm vm) X.zw w1) (mv (s := C.s.setVm vm) X.zw w8 w8k) (mv (s := C.s.setVm vm) X.zw w2) hy (mv (s := C.s.setVm vm) X.zw w5) (mv (s := C.s.setVm vm) X.zw w6) hK q1 q3 (g := mkF C.m pc Ls (argsL.reverse ++ .ref a :: st)) rfl (hsz.trans hml.symm) (Steps.refl _) (argsL := argsL) (rest := st) (lenOf hd hn) rfl (by show 2 * 0 + _ ≤ _; omega) (X.dec hi)
    (fun _ _ => ⟨rfl, X.eT, hc, hsl⟩)
  obtain ⟨L, r1, r2, r3, r4⟩ := hp
  rw [r2, r3, r4] at S'
  obtain ⟨f1, f2, f3⟩ := hQ v _ L r1
  exact Go.of (fun t u => stp.trans u) (g _ _ v L (X.put S' (N.app f1) hS hk rfl f2 f3) r1)
theorem On.getCause (X : On C R own b ml rt nm q Z a0 EL n0 vm T h k n) {ix W : Nat} {Cl : String} {a : Addr} {y : MethodName} (hi : Ins b pc (.invokevirtual ix) 3 pc') (E : Exa Z h a Cl) (N : Unt h a) (F : Fld Z h a tN "cause" thD (.ref a))
    (hyn : y.name = RoadKit.gcN.name) (hyd : y.desc = RoadKit.gcN.desc) (w1 : (Cond.methodLink own ix y).before a0 Z = true) (w2 : (Cond.declares ⟨tN, y.name, y.desc⟩).before a0 Z = true) (w8 : (Cond.sameMethod y.cls tN y.name y.desc).before a0 Z = true) (w8k : ((Cond.sameMethod y.cls tN y.name y.desc).onTables && (Cond.sameMethod y.cls tN y.name y.desc).keepsFace) = true) (w5 : (Cond.selects Cl y RoadKit.gcN).before a0 Z = true) (w6 : (Cond.instanceMethod RoadKit.gcN).before a0 Z = true)
    (wc : (Cond.codeSync RoadKit.gcN RoadKit.gcB 1 (some (.object tN))).before a0 Z = true) (wz : (Cond.initialized tN).before a0 Z = true) (wf : (Cond.fieldLink tN 7 tN "cause" thD).before a0 Z = true)
    (hsz : Ls.size = ml) (hW : 0 + (st.map fun v => v.category).sum = W) (hfr : 1 ≤ R.frames) (hlo : W + 12 ≤ R.locals) (hc : k ≤ R.cells) (hsl : n ≤ R.slots)
    (g : ∀ T', On C R own b ml rt nm q Z a0 EL n0 vm T' h k n → Go C R q Z EL n0 Q T' pc' Ls (.null :: st)) : Go C R q Z EL n0 Q T pc Ls (.ref a :: st) := by
  have hd : parseMethodDescriptor RoadKit.gcN.desc = some ⟨[], some (.object tN)⟩ := by decide +kernel
  refine X.backVU (W := W) (a := a) (argsL := []) (ow := tN) (QQ := fun v h' L => v = some .null ∧ L = [] ∧ h' = h) (kc := 0) (ks := 0) hi ?_ (fun v h' L hq => ⟨by rw [hq.2.1]; exact Fr.nil _, by rw [hq.2.2]; exact CHr.refl X.chv, by rw [hq.2.2]; exact X.old⟩) E w1 w2 w8 w8k w5 w6 (by decide) (by rw [hyd]; exact hd) rfl rfl hsz hW rfl rfl hc hsl ?_
  · have q := gcBackPure (rm := ({ frames := 0, cells := 0, slots := 0, locals := 0 } : Room)) (len := 3) (W := W) (l := C.l) (R := R) (p := C.p) (e := C.e) (below := C.below) (s := C.s.setVm vm) (args := C.args) X.zw wc w6 wz wf N F rfl (by show 0 + 1 ≤ _; omega) (by show W + (1 + 11) + 0 ≤ _; omega)
    rw [gcv_self] at q
    intro m meth c A g ig mk a' X1 hg hsize hdg hW1 hn hp
    obtain ⟨v, B, x1, x2, x3⟩ := q m meth c A g ig mk a' X1 hg hsize hdg hW1 hn hp
    exact ⟨v, B, x1, ⟨[], ⟨x2.1, rfl, x2.2.1⟩, by rw [x2.2.2.1, List.append_nil], x2.2.2.2.1, x2.2.2.2.2⟩, x3⟩
  · rintro T' h' v L X' ⟨rfl, -, rfl⟩
    exact g T' X'
end CallsK
end Jvm.Own
namespace Jvm.Own
open Jvm Jvm.ClassFile Sem Op Lib Jvm.Free Jvm.Stand Jvm.LawKit Jvm.RoadKit Bundle Jvm.Free.Exc LibCode.Throwable
def thrWords (rc : String) : List Cond := [.native tFill0, .initialized tN, .superclass tN "java/lang/Object", .instanceMethod tFill, .codeSync tFill Fill.code 1 (some (.object tN)), .instanceMethod tFill0, .instanceMethod oInit, .code oInit ⟨#[0xb1]⟩ 1 none,
  .methodLink tN 1 oInit, .methodLink tN 27 tFill, .methodLink tN 202 tFill0, .fieldLink tN 7 tN "cause" thD, .fieldLink tN 17 tN "stackTrace" steD, .fieldLink tN 24 tN "suppressedExceptions" listD, .fieldLink tN 13 tN "UNASSIGNED_STACK" steD, .laysStatic tN "UNASSIGNED_STACK" steD,
  .fieldLink tN 20 tN "SUPPRESSED_SENTINEL" listD, .laysStatic tN "SUPPRESSED_SENTINEL" listD, .fieldLink tN 198 tN "backtrace" obD, .lays rc tN "cause" thD, .lays rc tN "stackTrace" steD, .lays rc tN "suppressedExceptions" listD, .lays rc tN "detailMessage" msgD, .lays rc tN "backtrace" obD, .lays rc tN "depth" "I",
  .declares tFill, .selects rc tFill0 tFill0, .selects rc tFill tFill, .arrayOver (.object "java/lang/Object"), .soleField tN "backtrace", .soleField tN "depth"]
theorem thr_ok {rc : String} : (thrWords rc).all xOk = true := rfl
theorem own_thr {args : Array Value} {s : State} {pl : Platform} {rc : String} (howns : pl.frameOwnsMonitors = true) (hfin : pl.finalization = false) (hpl : pl.magicAccessors = ({} : Platform).magicAccessors) (h : ∀ c ∈ thrWords rc, c.before args s = true) :
    ∃ T : ThrowableC, T.Links pl s ∧ s.vm.findClass tN = some T.cT ∧ s.methodNamed? tFill = some T.fill ∧ s.methodNamed? tFill0 = some T.fill0 ∧ s.fieldFound? tN "stackTrace" steD = some (T.cT, T.kT, T.i17, T.fStack) ∧ s.fieldFound? tN "UNASSIGNED_STACK" steD = some (T.cT, T.kT, T.i13, T.fUnassigned) := by
  have w : ∀ c, c ∈ thrWords rc → c.holds args s none s [] = true := fun c hc => h c hc
  -- the class
  obtain ⟨⟨c, i0⟩, m0, n0, g0, na0, co0, lo0, si0⟩ := Cond.native_spec (w (.native tFill0) (by simp [thrWords]))
  have fc : s.vm.findClass tN = some c := findClass_of_methodNamed n0
  obtain ⟨k, kc, kn⟩ := Vm.findClass_spec fc
  obtain ⟨_, k1, _, _, kc1, _, _, _, _, ni⟩ := Cond.superclass_spec fc (w (.superclass tN "java/lang/Object") (by simp [thrWords]))
  obtain rfl : k = k1 := Option.some.inj (kc.symm.trans kc1)
  -- the receiver's class
  obtain ⟨cR, kR, _, _, _, _, fR, kcR, _⟩ := Cond.lays_spec (w (.lays rc tN "cause" thD) (by simp [thrWords]))
  -- the two methods
  obtain ⟨iF, mF, nF, gF, atF, sF, aF, -, -⟩ := Cond.ownMethod (x := tFill) fc kc (w (.instanceMethod tFill) (by simp [thrWords]))
  obtain ⟨mF', cF, gF', coF, byF, laF, reF, lkF, -, siF⟩ := Cond.codeSync_spec nF (w (.codeSync tFill Fill.code 1 (some (.object tN))) (by simp [thrWords]))
  obtain rfl : mF = mF' := Option.some.inj (gF.symm.trans gF')
  obtain ⟨i0', m0', n0', g0', at0, s0, a0, nm0, ds0⟩ := Cond.ownMethod (x := tFill0) fc kc (w (.instanceMethod tFill0) (by simp [thrWords]))
  obtain rfl : i0 = i0' := by have := Option.some.inj (n0.symm.trans n0'); simpa using this
  obtain rfl : m0 = m0' := Option.some.inj (g0.symm.trans g0')
  -- Object's constructor
  obtain ⟨mO, tO, nO, gO, sO, aO⟩ := Cond.instanceMethod_spec (w (.instanceMethod oInit) (by simp [thrWords]))
  obtain ⟨tO', cO, gO', coO, byO, laO, -, lkO, -, siO⟩ := Cond.code_spec nO (w (.code oInit ⟨#[0xb1]⟩ 1 none) (by simp [thrWords]))
  obtain rfl : tO = tO' := Option.some.inj (gO.symm.trans gO')
  obtain ⟨kO, kcO, knO⟩ := Vm.findClass_spec (findClass_of_methodNamed nO)
  obtain ⟨nmO, dsO⟩ := name_of_methodNamed nO gO
  -- the entries
  obtain ⟨u1, v1, cf, l1, r1, hcf, p1⟩ := Cond.linkedMethod fc kc nO (w (.methodLink tN 1 oInit) (by simp [thrWords])) pl hpl
  obtain ⟨u27, v27, cf2, l27, r27, hcf2, p27⟩ := Cond.linkedMethod fc kc nF (w (.methodLink tN 27 tFill) (by simp [thrWords])) pl hpl
  obtain ⟨u202, v202, cf3, l202, r202, hcf3, p202⟩ := Cond.linkedMethod fc kc n0 (w (.methodLink tN 202 tFill0) (by simp [thrWords])) pl hpl
  obtain rfl : cf = cf2 := Option.some.inj (hcf.symm.trans hcf2)
  obtain rfl : cf = cf3 := Option.some.inj (hcf.symm.trans hcf3)
  -- the fields: each as the receiver's class lays it
  obtain ⟨u7, j7, f7, l7, r7, t7, s7, z7, -, -, -⟩ := Cond.ownField (t := .object tN) fc kc (by decide +kernel) (w (.fieldLink tN 7 tN "cause" thD) (by simp [thrWords])) (w (.lays rc tN "cause" thD) (by simp [thrWords])) pl hpl
  obtain ⟨u17, j17, f17, l17, r17, t17, s17, z17, q17, -, ff17⟩ := Cond.ownField (t := .array (.object "java/lang/StackTraceElement")) fc kc (by decide +kernel) (w (.fieldLink tN 17 tN "stackTrace" steD) (by simp [thrWords])) (w (.lays rc tN "stackTrace" steD) (by simp [thrWords])) pl hpl
  obtain ⟨u24, j24, f24, l24, r24, t24, s24, z24, q24, -, ff24⟩ := Cond.ownField (t := .object "java/util/List") fc kc (by decide +kernel) (w (.fieldLink tN 24 tN "suppressedExceptions" listD) (by simp [thrWords])) (w (.lays rc tN "suppressedExceptions" listD) (by simp [thrWords])) pl hpl
  obtain ⟨u13, j13, f13, aS, cS, l13, r13, t13, s13, -, -, st13, -, -, -, -, ff13⟩ := Cond.ownStatic (t := .array (.object "java/lang/StackTraceElement")) fc kc (by decide +kernel) (w (.fieldLink tN 13 tN "UNASSIGNED_STACK" steD) (by simp [thrWords])) (w (.laysStatic tN "UNASSIGNED_STACK" steD) (by simp [thrWords])) pl hpl
  obtain ⟨u20, j20, f20, _, _, l20, r20, t20, s20, -⟩ := Cond.ownStatic (t := .object "java/util/List") fc kc (by decide +kernel) (w (.fieldLink tN 20 tN "SUPPRESSED_SENTINEL" listD) (by simp [thrWords])) (w (.laysStatic tN "SUPPRESSED_SENTINEL" listD) (by simp [thrWords])) pl hpl
  obtain ⟨_, _, _, _, _, fM, _, _, _, sM, zM, _⟩ := Cond.lays_spec (w (.lays rc tN "detailMessage" msgD) (by simp [thrWords]))
  obtain ⟨-, d17, e17, e17n⟩ := Cond.laysAt fR kcR ff17 (w (.lays rc tN "stackTrace" steD) (by simp [thrWords]))
  obtain ⟨-, d24, e24, e24n⟩ := Cond.laysAt fR kcR ff24 (w (.lays rc tN "suppressedExceptions" listD) (by simp [thrWords]))
  have apart := Cond.laysApart e17 e24 e17n e24n (by rw [q17, q24]; decide)
  have par : ∀ {d : String} {m : Method} {L : List FieldType}, parseMethodDescriptor d = some m.sig → (parseMethodDescriptor d).map (·.parameters) = some L → m.sig.parameters = L := fun h1 h2 => by rw [h1] at h2; simpa using h2
  exact ⟨{ cT := c, kT := k, cO := c, aS := aS, fillIdx := iF, fill0Idx := i0, initSIdx := iF, obj := mO, kObj := kO, methFill := mF, methFill0 := m0, methInitS := mF, methObj := tO, codeFill := cF, codeInitS := cF, codeObj := cO, fBack := f7, fDepth := f7, fStack := f17, fCause := f7, fSupp := f24, fMsg := fM, fUnassigned := f13, fSentinel := f20, cfT := cf, ci1 := u1, n1 := v1, ci27 := u27, n27 := v27, ci202 := u202, n202 := v202, ci7 := u7, i7 := j7, ci13 := u13, i13 := j13, ci17 := u17, i17 := j17, ci20 := u20, i20 := j20, ci24 := u24, i24 := j24 },
    { owns := howns, noFinalization := hfin, cls := kc, name := kn, boot := Vm.findClass_boot fc kc, notInterface := ni, initialized := Cond.initialized_spec fc kc (w (.initialized tN) (by simp [thrWords])), statics := st13
      fillAt := atF, fillCode := coF, fillBytes := byF, fillLocals := laF, fillLocks := lkF, fillStatic := sF, fillAbstract := aF, fillReturns := reF, fillParams := par siF (by decide +kernel)
      fill0At := at0, fill0Name := nm0, fill0Desc := ds0, fill0Params := par si0 (by decide +kernel), fill0Static := s0, fill0Native := na0, fill0Code := co0, fill0Locks := lo0, fill0Abstract := a0
      stackInstance := s17, stackNotFinal := z17, unassignedStatic := s13, objClass := kcO, objClassName := knO, objMethod := gO, objName := nmO, objStatic := sO, objAbstract := aO, objFound := by rw [dsO]; exact lookupSpecial_of_named nO gO sO
      objParams := by rw [par siO (L := []) (by decide +kernel)]; rfl
      objCode := coO, objBytes := byO, objLocks := lkO, causeInstance := s7, causeNotFinal := z7, sentinelStatic := s20, suppInstance := s24, suppNotFinal := z24, msgInstance := sM, msgNotFinal := zM, stackApartSupp := apart
      file := hcf, mlink1 := l1, mright1 := r1, pool1 := p1, mlink27 := l27, mright27 := r27, pool27 := p27, mlink202 := l202, mright202 := r202, pool202 := p202, link7 := l7, right7 := r7, at7 := t7, link13 := l13, right13 := r13, at13 := t13, link17 := l17, right17 := r17, at17 := t17, link20 := l20, right20 := r20, at20 := t20, link24 := l24, right24 := r24, at24 := t24 }, fc, nF, n0, ff17, ff13⟩
theorem own_found {Z s : State} (hZ : Z.vm.Alike s.vm) {O f d : String} {c i : Nat} {k : Class} {fl : Field} (h : Z.fieldFound? O f d = some (c, k, i, fl)) {c' i' : Nat} {k' : Class} {fl' : Field} (h' : s.fieldFound? O f d = some (c', k', i', fl')) : fl' = fl ∧ k'.statics = k.statics := by
  obtain ⟨k2, hi', hek⟩ := State.fieldFound?_setVm hZ h
  have e : s.fieldFound? O f d = some (c, k2, i, fl) := hi'
  have e2 := Option.some.inj (e.symm.trans h')
  simp only [Prod.mk.injEq] at e2
  obtain ⟨-, rfl, -, rfl⟩ := e2
  exact ⟨rfl, by rw [hek]⟩
section Fill
variable {C : Cx} {R : Room} {b : ByteArray} {ml : Nat} {rt : Option FieldType} {nm : String} {q : Bool} {Z : State} {a0 : Array Value} {EL : List (String × Nat)} {n0 : Nat} {vm : Vm} {T : State} {h : Heap} {k n : Nat} {Q : Option Value → Heap → (Addr → Prop) → Prop} {pc pc' pt : Nat} {Ls Ls' : Array Slot} {st : List Value}
theorem On.fill (X : On C R tN b ml rt nm q Z a0 EL n0 vm T h k n) (hst : C.l.stackTraces = true) {rc : String} {nf k' n' W : Nat} {a u : Addr} (hi : Ins b pc (.invokevirtual 27) 3 pc') (Wd : ∀ d ∈ thrWords rc, d.before a0 Z = true) (wi : (Cond.instantiable rc nf).before a0 Z = true)
    (hT0 : ThS Z C.s.heap) (hKn : Z.vm.MethodsKnown) (hFK : Z.vm.FramesKnown C.below) (E : Exa Z h a rc) (N : Unt h a) (FS : Fld Z h a tN "stackTrace" steD (.ref u)) (FB : Fld Z h a tN "backtrace" obD .null) (SU : Sta Z Z.heap tN "UNASSIGNED_STACK" steD (.ref u)) (ga : n0 ≤ a) (Sf : Safe Z EL vm h a)
    (hsz : Ls.size = ml) (hW : 0 + (st.map fun v => v.category).sum = W) (hf : 3 ≤ R.frames) (hlo : W + 42 ≤ R.locals) (hk' : k + 1 = k') (hn' : n + 2752 = n') (hc : k' ≤ R.cells) (hsl : n' ≤ R.slots)
    (g : ∀ T' h1 h2 h3 h' bt dn, On C R tN b ml rt nm q Z a0 EL n0 vm T' h' k' n' → Ext h h1 → Wr h1 h2 a (RoadKit.slotOf Z tN "backtrace" obD) (.ref bt) → Wr h2 h3 a (RoadKit.slotOf Z tN "depth" "I") (.int dn) → Wr h3 h' a (RoadKit.slotOf Z tN "stackTrace" steD) (.ref u) → Go C R q Z EL n0 Q T' pc' Ls (.ref a :: st)) : Go C R q Z EL n0 Q T pc Ls (.ref a :: st) := by
  subst hk' hn'
  obtain ⟨-, rfl⟩ := id hi
  obtain ⟨⟨k0, locs, S, N0, hS, hk⟩, -, -, -, hml, -⟩ := id X
  have hal : Z.vm.Alike (C.s.setVm vm).vm := X.zw.alike
  have hs : ∀ d ∈ thrWords rc, d.before C.args (C.s.setVm vm) = true := fun d hd => mvX (s := C.s.setVm vm) hT0 X.zw (List.all_eq_true.mp thr_ok d hd) (Wd d hd)
  have hs' : ∀ d, d ∈ thrWords rc → d.holds C.args (C.s.setVm vm) none (C.s.setVm vm) [] = true := fun d hd => hs d hd
  have howns : C.e.platform.frameOwnsMonitors = true := by rw [S.admits.platform]
  have hfin : C.e.platform.finalization = false := by rw [S.admits.platform]
  have hpl : C.e.platform.magicAccessors = ({} : Platform).magicAccessors := by rw [S.admits.platform]
  have htr : C.e.platform.stackTraces = true := by rw [S.admits.platform]; exact hst
  obtain ⟨T0, L, hcT, hnF, hn0, hfS, hfU⟩ := own_thr howns hfin hpl hs
  obtain ⟨cell, u1, u2, u3⟩ := id N
  obtain ⟨ce, kE, x1, x2, x3, x4, x5⟩ := id E
  obtain rfl : ce = cell := Option.some.inj (x1.symm.trans u1)
  obtain ⟨cI, kI, y1, y2, y3, -⟩ := Cond.instantiable_spec wi
  have ecI : cI = ce.cls := Option.some.inj (y1.symm.trans x2)
  subst ecI
  obtain rfl : kI = kE := Option.some.inj (y2.symm.trans x3)
  obtain ⟨kX, hkX, heX⟩ := hal.2.2 _ _ x3
  have hord : kX.kind = .ordinary := by rw [heX]; exact y3
  have hszX : ce.slots.size = kX.instanceTypes.size := by rw [heX]; exact x5 y3
  have hfound : (C.s.setVm vm).vm.findClass rc = some ce.cls := by rw [hal.findClass]; exact x2
  -- stackTrace
  obtain ⟨c1, cf1, k1, i1, f1, m1, m2, m3, m4, m5, m6, m7⟩ := FS
  obtain rfl : c1 = ce := Option.some.inj (m1.symm.trans u1)
  have eS := (own_found hal m2 hfS).1
  have slS : RoadKit.slotOf Z tN "stackTrace" steD = T0.fStack.slot := by simp [RoadKit.slotOf, m2, eS]
  -- UNASSIGNED_STACK
  obtain ⟨cfU, iU, kU, fU, stU, cS, p1, p2, p3, p4, p5, p6, p7⟩ := SU.ext X.ext0
  obtain ⟨eU, eUs⟩ := own_found hal p1 hfU
  have eaS : stU = T0.aS := Option.some.inj (p4.symm.trans (eUs.symm.trans L.statics))
  subst eaS
  have hneS : T0.aS ≠ a := fun z => by
    rw [z, u1] at p5
    rw [← Option.some.inj p5, u2] at p6
    cases p6
  have hknS : cS.vm ≠ .unknown := fun z => by rw [z] at p6; cases p6
  -- backtrace
  obtain ⟨ci8, i8, fB, hk8, hg8, ha8, hsB, -, hnB, htyB, hffB⟩ := Cond.ownField (t := .object "java/lang/Object") hcT L.cls (by decide +kernel) (hs' (.fieldLink tN 198 tN "backtrace" obD) (by simp [thrWords])) (hs' (.lays rc tN "backtrace" obD) (by simp [thrWords])) C.e.platform hpl
  obtain ⟨c2, cf2, k2, i2, f2, b1, b2, b3, b4, b5, b6, b7⟩ := FB
  obtain rfl : c2 = c1 := Option.some.inj (b1.symm.trans u1)
  have eB := (own_found hal b2 hffB).1
  have slB : RoadKit.slotOf Z tN "backtrace" obD = fB.slot := by simp [RoadKit.slotOf, b2, eB]
  -- depth
  obtain ⟨_, _, cD, kD, iD, fD, _, _, hffD, hsD, _⟩ := Cond.lays_spec (hs' (.lays rc tN "depth" "I") (by simp [thrWords]))
  have ecD : cD = T0.cT := Option.some.inj ((Cond.lays_declared (hs' (.lays rc tN "depth" "I") (by simp [thrWords])) hffD).symm.trans hcT)
  subst ecD
  obtain ⟨hkD, hatD⟩ := State.fieldFound?_spec hffD
  obtain rfl : kD = T0.kT := Option.some.inj (hkD.symm.trans L.cls)
  obtain ⟨hnD, htyD⟩ := State.fieldFound?_type hffD (t := .int) (by decide +kernel)
  have slD : RoadKit.slotOf Z tN "depth" "I" = fD.slot := by
    obtain ⟨_, _, _, _, _, fZ, _, _, z1, _⟩ := Cond.lays_spec (show (Cond.lays rc tN "depth" "I").holds a0 Z none Z [] = true from Wd _ (by simp [thrWords]))
    have := (own_found hal z1 hffD).1
    simp [RoadKit.slotOf, z1, this]
  have hfb := Cond.soleField_find hcT L.cls (hs' (.soleField tN "backtrace") (by simp [thrWords])) ha8 hnB hsB
  have hfd := Cond.soleField_find hcT L.cls (hs' (.soleField tN "depth") (by simp [thrWords])) hatD hnD hsD
  obtain ⟨comp, cO, kO, -, -, hkO, hkindO, hO⟩ := Cond.arrayOver_spec (hs' (.arrayOver (.object "java/lang/Object")) (by simp [thrWords]))
  obtain ⟨tyS, -⟩ := Cond.laysAt hfound hkX hfS (hs' (.lays rc tN "stackTrace" steD) (by simp [thrWords]))
  obtain ⟨tyB, -⟩ := Cond.laysAt hfound hkX hffB (hs' (.lays rc tN "backtrace" obD) (by simp [thrWords]))
  obtain ⟨tyD, -⟩ := Cond.laysAt hfound hkX hffD (hs' (.lays rc tN "depth" "I") (by simp [thrWords]))
  have tk : ∀ {f : Field} {v : Value}, kX.instanceTypes[f.slot]? = some f.type → fits f.type v = true → Jvm.Takes (C.s.setVm vm) c2 f v := fun {f v} h1 h2 => by
    obtain ⟨q1, q2⟩ := Takes.of_laid (v := v) hkX hord h1 h2
    exact ⟨by rw [hszX]; simpa using q1, by rw [u2]; exact q2⟩
  have hsel0 : selectMethod C.e.platform (C.s.setVm vm).vm c2.cls T0.fill0 = .method T0.fill0 := by
    obtain ⟨c9, r9, m9, q1, q2, q3, q4, -⟩ := Cond.selects_spec (hs' (.selects rc tFill0 tFill0) (by simp [thrWords]))
    have g1 : c9 = c2.cls := Option.some.inj (q1.symm.trans hfound)
    have g2 : r9 = T0.fill0 := Option.some.inj (q2.symm.trans (State.methodFound?_of_named hn0 (by decide)))
    have g3 : m9 = T0.fill0 := Option.some.inj (q3.symm.trans hn0)
    subst g1 g2 g3
    rw [Launch.admits_selectMethod S.admits]; exact q4
  have tyS0 := (State.fieldFound?_type hfS (t := .array (.object "java/lang/StackTraceElement")) (by decide +kernel)).2
  have BK := Jvm.Free.Str.fillPays (l := C.l) (R := R) (p := C.p) (e := C.e) (below := C.below) (s := C.s.setVm vm) (sargs := C.args) (len := 3) (W := W) X.exec htr T0 L hnF (u0 := ⟨.ref u, rfl⟩) (fun z => nomatch z) (self := a) (cell := c2) (cellS := cS) (by rw [u2]; simp) (by rw [u2]; simp) (by rw [u3]) (by rw [u3])
    (by rw [eS]; exact m7) hsel0 hneS hknS (by rw [eU]; exact p7) (tk tyS (by rw [tyS0]; rfl)) ⟨⟨ci8, i8, fB⟩, ⟨hk8, hg8, ha8, hsB⟩, by rw [eB]; exact b7⟩ (hKn.alikeC hal) (hFK.alikeC hal) hcT hO hkO hkindO hfb hfd (fun _ => tk tyB (by rw [htyB]; rfl)) (fun _ => tk tyD (by rw [htyD]; rfl)) hf hlo
  obtain ⟨cB, kB, q1, q2, q3⟩ := isOf (s := C.s.setVm vm) X.zw X.eT E
  obtain ⟨v, vm1, B, -, S', hp, stp⟩ := S.virtualBack X.exec (y := tFill) (z := tFill) X.owned (hs (.methodLink tN 27 tFill) (by simp [thrWords])) (hs (.declares tFill) (by simp [thrWords])) (notFace_of_selects (hs (.selects rc tFill tFill) (by simp [thrWords]))) (hs (.selects rc tFill tFill) (by simp [thrWords])) (hs (.instanceMethod tFill) (by simp [thrWords])) (by decide) BK q1 q3 (g := mkF C.m pc Ls (.ref a :: st)) rfl (hsz.trans hml.symm) (Steps.refl _) (argsL := []) (rest := st) (lenOf (ps := []) (r := some (.object tN)) (by decide +kernel) rfl) rfl (by show 2 * 0 + _ ≤ _; omega) (X.dec hi)
    (fun _ _ => ⟨rfl, hc, hsl, by show T.heap[a]? = _; rw [X.eT]; exact u1, by show T.heap[T0.aS]? = _; rw [X.eT]; exact p5⟩)
  obtain ⟨rfl, vm', lines, hl, -, hU, hL, hcl, hsl2⟩ := hp
  have hsize : (traceHolder cO lines).slots.size ≤ 2752 := traceHolder_size_le cO hl
  rw [hL, hcl, hsl2] at S'
  have S2 := S'.more (Nat.le_refl _) (Nat.add_le_add_left hsize _)
  have alt : a < h.size := (Array.getElem?_eq_some_iff.mp u1).1
  have eh : B.U.heap = (((h.push (traceHolder cO lines)).setIfInBounds a (c2.setSlot fB.slot (.ref h.size))).setIfInBounds a ((c2.setSlot fB.slot (.ref h.size)).setSlot fD.slot (.int lines.length.toInt32))).setIfInBounds a (Jvm.Free.Str.filledOn T0.toThrowableT fB fD c2 ⟨.ref u, rfl⟩ h.size lines.length.toInt32) := by
    rw [hU]
    show (T.heap.push _).setIfInBounds a (Jvm.Free.Str.filledOn T0.toThrowableT fB fD c2 ⟨.ref u, rfl⟩ T.heap.size lines.length.toInt32) = _
    rw [X.eT, Array.setIfInBounds_setIfInBounds, Array.setIfInBounds_setIfInBounds]
  have E1 : Ext h (h.push (traceHolder cO lines)) := ⟨by simp, fun y c hy => by rw [Array.getElem?_push_lt (Array.getElem?_eq_some_iff.mp hy).1]; exact (Array.getElem?_eq_getElem _).symm.trans hy⟩
  have nst : c2.vm.isStatics = false := by rw [u2]; rfl
  have hbB : fB.slot < c2.slots.size := by rw [hszX]; exact (Array.getElem?_eq_some_iff.mp tyB).1
  have hbD : fD.slot < c2.slots.size := by rw [hszX]; exact (Array.getElem?_eq_some_iff.mp tyD).1
  have hbS : T0.fStack.slot < c2.slots.size := by rw [hszX]; exact (Array.getElem?_eq_some_iff.mp tyS).1
  have W1 : Wr (h.push (traceHolder cO lines)) _ a (RoadKit.slotOf Z tN "backtrace" obD) (.ref h.size) := ⟨c2, E1.2 _ _ u1, nst, by rw [slB]; exact hbB, by rw [slB]⟩
  have W2 : Wr ((h.push (traceHolder cO lines)).setIfInBounds a (c2.setSlot fB.slot (.ref h.size))) _ a (RoadKit.slotOf Z tN "depth" "I") (.int lines.length.toInt32) := ⟨c2.setSlot fB.slot (.ref h.size), by rw [Array.getElem?_setIfInBounds_self_of_lt (by simp only [Array.size_setIfInBounds, Array.size_push]; exact Nat.lt_succ_of_lt alt)], nst, by rw [slD]; simpa [Cell.setSlot] using hbD, by rw [slD]⟩
  have W3 : Wr (((h.push (traceHolder cO lines)).setIfInBounds a (c2.setSlot fB.slot (.ref h.size))).setIfInBounds a ((c2.setSlot fB.slot (.ref h.size)).setSlot fD.slot (.int lines.length.toInt32))) B.U.heap a (RoadKit.slotOf Z tN "stackTrace" steD) (.ref u) := ⟨(c2.setSlot fB.slot (.ref h.size)).setSlot fD.slot (.int lines.length.toInt32), by rw [Array.getElem?_setIfInBounds_self_of_lt (by simp only [Array.size_setIfInBounds, Array.size_push]; exact Nat.lt_succ_of_lt alt)], nst, by rw [slS]; simpa [Cell.setSlot] using hbS, by rw [slS]; exact eh⟩
  have mem : a ∈ [a] ∨ h.size ≤ a := Or.inl (List.mem_singleton.mpr rfl)
  have K : Keep h B.U.heap [a] := (((((Keep.refl h [a]).ext E1).wr W1 mem).wr W2 mem).wr W3 mem)
  have N2 : Fr n0 (locs ++ [⟨a, fB.slot⟩, ⟨a, fD.slot⟩, ⟨a, T0.fStack.slot⟩]) := N0.app fun y hy => by
    simp only [List.mem_cons, List.not_mem_nil, or_false] at hy
    rcases hy with rfl | rfl | rfl <;> exact ga
  exact Go.of (fun t z => stp.trans z) (g B.U _ _ _ B.U.heap _ _ (X.put S2 N2 hS hk rfl (CHr.keep K (sfS Sf sf0) X.chv) (X.old.keep K (allS ga all0))) E1 W1 W2 W3)
end Fill
end Jvm.Own
namespace Jvm.Own
open Jvm Jvm.ClassFile Sem Op Lib Jvm.Free Jvm.Stand Jvm.LawKit Jvm.RoadKit Bundle Jvm.Free.Exc
section CallsS
variable {C : Cx} {R : Room} {own : String} {b : ByteArray} {ml : Nat} {rt : Option FieldType} {nm : String} {q : Bool} {Z : State} {a0 : Array Value} {EL : List (String × Nat)} {n0 : Nat} {vm : Vm} {T : State} {h : Heap} {k n : Nat} {Q : Option Value → Heap → (Addr → Prop) → Prop} {pc pc' pt : Nat} {Ls Ls' : Array Slot} {st : List Value}
theorem On.callSK (X : On C R own b ml rt nm q Z a0 EL n0 vm T h k n) {l : Launch} (hl0 : C.l = l) (hKn : Z.vm.MethodsKnown) (hFK : Z.vm.FramesKnown C.below) {ix W k' n' : Nat} {y : MethodName} {bytes : ByteArray} {maxL : Nat} {ret r : Option FieldType} {ps : List FieldType} {rm : Room} {Q' : Option Value → Heap → (Addr → Prop) → Prop} {ws : List Addr} {argsL sta : List Value} (hi : Ins b pc (.invokestatic ix) 3 pc')
    (hM : ConK [] q l Z EL n0 ws y bytes maxL ret rm argsL.toArray h Q') (w1 : (Cond.methodLink own ix y).before a0 Z = true) (w2 : (Cond.static y).before a0 Z = true) (w3 : (Cond.initialized y.cls).before a0 Z = true) (w4 : (Cond.code y bytes maxL ret).before a0 Z = true) (hy : y.cls ≠ "java/lang/invoke/MethodHandle" ∧ y.cls ≠ "java/lang/invoke/VarHandle")
    (hs : ∀ x ∈ ws, Safe Z EL vm h x ∧ x < h.size) (hd : parseMethodDescriptor y.desc = some ⟨ps, r⟩) (hn : argsL.length = ps.length) (hst : sta = argsL.reverse ++ st) (hsz : Ls.size = ml) (hW : 0 + (st.map fun v => v.category).sum = W) (hf : rm.frames + 1 ≤ R.frames) (hl : W + (maxL + 11) + rm.locals ≤ R.locals)
    (hk' : k + rm.cells = k') (hn' : n + rm.slots = n') (hc : k' ≤ R.cells) (hsl : n' ≤ R.slots)
    (g : ∀ vm' T' h' v, On C R own b ml rt nm q Z a0 EL n0 vm' T' h' k' n' → CHr Z EL vm h vm' h' → Q' v h' (Safe Z EL vm' h') → Go C R q Z EL n0 Q T' pc' Ls (v.toList ++ st)) : Go C R q Z EL n0 Q T pc Ls sta := by
  subst hl0 hst
  obtain ⟨-, rfl⟩ := id hi
  obtain ⟨⟨k0, locs, S, N, hS, hk⟩, -, -, -, hml, -⟩ := id X
  obtain ⟨v, vm1, B, -, S', s1, s2, hp, stp⟩ := callSS S X.exec (y := y) X.owned (mv (s := C.s.setVm vm) X.zw w1) (mv (s := C.s.setVm vm) X.zw w2) (mv (s := C.s.setVm vm) X.zw w3) (mv (s := C.s.setVm vm) X.zw w4) hy (backQK (W := W) hM X.zw w4 w3 hf hl X.ew X.chv hs (hKn.alikeC X.zw.alike) (hFK.alikeC X.zw.alike)) (g := mkF C.m pc Ls (argsL.reverse ++ st)) rfl (hsz.trans hml.symm) (argsL := argsL) (rest := st) (lenOf hd hn) rfl (by show 2 * 0 + _ ≤ _; omega) (X.dec hi)
    (fun _ _ => ⟨rfl, X.eT, hk' ▸ hc, hn' ▸ hsl⟩)
  obtain ⟨X', r1, r2⟩ := X.after N hS hk S' s1 s2 hp hk' hn'
  exact Go.of (fun t u => stp.trans u) (g _ _ _ v X' r1 r2)
end CallsS
end Jvm.Own
/- laws to paste: Road.backV, Road.lenW, Road.eqW, pair_says, shr1, shr0, narrow_ch, lo8_mask, Road.wide_lo, Road.wide_hi (cut by pick.py; bodies as the Statement names them) -/
namespace Jvm.Pilot.@@N@@
namespace StrChars
open Jvm Sem ClassFile Op Lib Jvm.Stand Jvm.Free.XT Jvm.Free.ALB Jvm.Free.JM Jvm.Free
open Jvm.Lib.Cold (StaticIs)
/-- a char array whose places are chars -/
def Ch (a : Addr) (A : Cell) (U : State) : Prop := Arr .char a A U ∧ Typed .char A
theorem Ch.mv {a : Addr} {A : Cell} {U U' : State} (h : Ch a A U) (hal : U.vm.Alike U'.vm) (hh : U'.heap = U.heap) : Ch a A U' := ⟨h.1.mv hal hh, h.2⟩
theorem Ch.keep {a : Addr} {A : Cell} {U U' : State} (h : Ch a A U) (hal : U.vm.Alike U'.vm) (hk : U'.heap[a]? = some A) : Ch a A U' := ⟨h.1.keep hal hk, h.2⟩
/-- what place i of a char[]'s cell holds -/
def cv (A : Cell) (i : Nat) : Int32 := match A.slots[i]? with | some (.int x) => x | _ => 0
theorem Ch.get {a : Addr} {A : Cell} {U : State} (h : Ch a A U) {i : Nat} (hi : i < A.slots.size) : A.slots[i]? = some (.int (cv A i)) := by
  have e := Array.getElem?_eq_getElem hi
  have f := h.2 i _ e
  unfold cv; rw [e]
  generalize A.slots[i] = v at f
  cases v <;> simp [fits] at f ⊢
/-- the byte that i2b leaves of a char -/
def lo8 (x : Int32) : Int32 := x.toInt8.toInt32
theorem fits_lo8 (y : Int32) : fits .byte (.int (lo8 y)) = true := by
  have h1 := y.toInt8.le_toInt
  have h2 := y.toInt8.toInt_lt
  simp only [lo8, fits, Bool.and_eq_true, decide_eq_true_eq, Int32.le_iff_toInt_le, Int8.toInt_toInt32, show (-128 : Int32).toInt = -128 from by decide, show (127 : Int32).toInt = 127 from by decide]
  omega
/-- A' is A but that each place j of lo .. hi - 1 holds f j -/
def Laid (A A' : Cell) (lo hi : Nat) (f : Nat → Value) : Prop := A'.cls = A.cls ∧ A'.vm = A.vm ∧ A'.slots.size = A.slots.size ∧ ∀ i, A'.slots[i]? = if lo ≤ i ∧ i < hi then some (f i) else A.slots[i]?
theorem Laid.zero (A : Cell) (lo : Nat) (f : Nat → Value) : Laid A A lo (lo + 0) f := ⟨rfl, rfl, rfl, fun i => by rw [if_neg (by omega)]⟩
theorem Laid.step {A Ak : Cell} {lo k : Nat} {f : Nat → Value} {v : Value} (h : Laid A Ak lo k f) (hlo : lo ≤ k) (hk : k < Ak.slots.size) (hv : v = f k) : Laid A (Ak.setSlot k v) lo (k + 1) f := by
  refine ⟨h.1, h.2.1, by simpa [Cell.setSlot] using h.2.2.1, fun i => ?_⟩
  by_cases e : k = i
  · subst e; rw [Cell.slots_setSlot_self v hk, if_pos (by omega), hv]
  · rw [Cell.slots_setSlot_ne v e, h.2.2.2 i]
    by_cases q : lo ≤ i ∧ i < k
    · rw [if_pos q, if_pos (by omega)]
    · rw [if_neg q, if_neg (by omega)]
def U16 : String := "java/lang/StringUTF16"
namespace Cmp5
def yN : MethodName := ⟨"java/lang/StringUTF16", "compress", "([CI[BII)I"⟩
abbrev yB : ByteArray := jdk_52_method_21_code
theorem d0 : decode yB 0 = .ok (.iconst 0, 1) := by decide +kernel
theorem d1 : decode yB 1 = .ok (.istore 5, 2) := by decide +kernel
theorem d3 : decode yB 3 = .ok (.iload 5, 2) := by decide +kernel
theorem d5 : decode yB 5 = .ok (.iload 4, 2) := by decide +kernel
theorem d7 : decode yB 7 = .ok (.if_icmp (.ge) 37, 3) := by decide +kernel
theorem d10 : decode yB 10 = .ok (.aload_n 0, 1) := by decide +kernel
theorem d11 : decode yB 11 = .ok (.iload_n 1, 1) := by decide +kernel
theorem d12 : decode yB 12 = .ok (.caload, 1) := by decide +kernel
theorem d13 : decode yB 13 = .ok (.istore 6, 2) := by decide +kernel
theorem d15 : decode yB 15 = .ok (.iload 6, 2) := by decide +kernel
theorem d17 : decode yB 17 = .ok (.sipush 255, 3) := by decide +kernel
theorem d20 : decode yB 20 = .ok (.if_icmp (.le) 6, 3) := by decide +kernel
theorem d26 : decode yB 26 = .ok (.aload_n 2, 1) := by decide +kernel
theorem d27 : decode yB 27 = .ok (.iload_n 3, 1) := by decide +kernel
theorem d28 : decode yB 28 = .ok (.iload 6, 2) := by decide +kernel
theorem d30 : decode yB 30 = .ok (.i2b, 1) := by decide +kernel
theorem d31 : decode yB 31 = .ok (.bastore, 1) := by decide +kernel
theorem d32 : decode yB 32 = .ok (.iinc 1 1, 3) := by decide +kernel
theorem d35 : decode yB 35 = .ok (.iinc 3 1, 3) := by decide +kernel
theorem d38 : decode yB 38 = .ok (.iinc 5 1, 3) := by decide +kernel
theorem d41 : decode yB 41 = .ok (.goto (-38), 3) := by decide +kernel
theorem d44 : decode yB 44 = .ok (.iload 4, 2) := by decide +kernel
theorem d46 : decode yB 46 = .ok (.ireturn, 1) := by decide +kernel
def site : List Cond := []
def tab : Cond := tabOf yN yB 7 (some .int) site
def P (b : Addr) (A : Cell) (d : Addr) (B : Cell) (o q len : Nat) (args : Array Value) (s : State) : Prop := args = #[.ref b, .int (Int32.ofNat o), .ref d, .int (Int32.ofNat q), .int (Int32.ofNat len)] ∧ Ch b A s ∧ Arr .byte d B s ∧ b ≠ d ∧ o + len ≤ A.slots.size ∧ q + len ≤ B.slots.size ∧ ∀ i, i < len → ¬ 255 < cv A (o + i)
def E (b : Addr) (A : Cell) (d : Addr) (B : Cell) (o q len : Nat) (r : Option Value) (s u : State) : Prop := r = some (.int (Int32.ofNat len)) ∧ ∃ B', Put d B' s u ∧ Laid B B' q (q + len) (fun j => Value.int (lo8 (cv A (o + (j - q)))))
/-- no char of the range above 255: len; the places written hold each char's low byte -/
theorem law (l : Launch) (b : Addr) (A : Cell) (d : Addr) (B : Cell) (o q len : Nat) : Law l yN 5 5 0 0 yB 7 (some .int) site (P b A d B o q len) (E b A d B o q len) (copyLocs d q len) 0 0 := by
  refine Law.of_walk (plainFor_of_name (by decide +kernel)) (by decide +kernel) (by decide +kernel) (by decide) (fun _ _ h => by rw [h.1]; rfl) (fun _ U U' hal hh h => ⟨h.1, h.2.1.mv hal hh, h.2.2.1.mv hal hh, h.2.2.2⟩) (fun r U U' V V' h1 hal h2 h => ⟨h.1, h.2.elim fun B' q => ⟨B', q.1.mv h1 h2, q.2⟩⟩) ?_
  intro p e s m args below meth c s₁ X0 hexec hbytes hml hret hlk hnm hown hh0 W hP
  obtain ⟨rfl, hA, hB, hne, l1, l2, hp⟩ := hP
  have c1 : Steps p.tables e below (s₁.setTop (entryFrame m #[.ref b, .int (Int32.ofNat o), .ref d, .int (Int32.ofNat q), .int (Int32.ofNat len)] 7)) (s₁.setTop (mkF m 0 #[.val (.ref b), .val (.int (Int32.ofNat o)), .val (.ref d), .val (.int (Int32.ofNat q)), .val (.int (Int32.ofNat len)), .unset, .unset] [])) := entry rfl
  have hA0 := hA.1.mv X0.warmed.alike hh0
  have hB0 := hB.mv X0.warmed.alike hh0
  have a31 := hA.1.2.2.2
  have c2 : Steps p.tables e below (s₁.setTop (entryFrame m #[.ref b, .int (Int32.ofNat o), .ref d, .int (Int32.ofNat q), .int (Int32.ofNat len)] 7)) (s₁.setTop (mkF m 3 #[.val (.ref b), .val (.int (Int32.ofNat o)), .val (.ref d), .val (.int (Int32.ofNat q)), .val (.int (Int32.ofNat len)), .val (.int 0), .unset] [])) := c1.trans (by
    refine iconstV X0.here hexec rfl 0 (hb hbytes d0) (by decide) ?_
    refine XS.istore X0.here hexec rfl (hb hbytes d1) rfl rfl ?_
    exact Steps.refl _)
  have loop : ∀ (r i : Nat), i + r = len → ∀ (z : Slot), (z = .unset ∨ ∃ w, z = .val w ∧ w.category = 1) → ∀ (Tl : State) (Bk : Cell), Stand p l e { frames := 0, locals := 0, cells := 0, slots := 0 } s m #[.ref b, .int (Int32.ofNat o), .ref d, .int (Int32.ofNat q), .int (Int32.ofNat len)] below meth c Tl ([] ++ copyLocs d q i) 0 0 → Put d Bk s₁ Tl → Laid B Bk q (q + i) (fun j => Value.int (lo8 (cv A (o + (j - q))))) →
      Steps p.tables e below (s₁.setTop (entryFrame m #[.ref b, .int (Int32.ofNat o), .ref d, .int (Int32.ofNat q), .int (Int32.ofNat len)] 7)) (Tl.setTop (mkF m 3 #[.val (.ref b), .val (.int (Int32.ofNat (o + i))), .val (.ref d), .val (.int (Int32.ofNat (q + i))), .val (.int (Int32.ofNat len)), .val (.int (Int32.ofNat i)), z] [])) → ∃ (T' : State) (B' : Cell) (z' : Slot), Stand p l e { frames := 0, locals := 0, cells := 0, slots := 0 } s m #[.ref b, .int (Int32.ofNat o), .ref d, .int (Int32.ofNat q), .int (Int32.ofNat len)] below meth c T' ([] ++ copyLocs d q len) 0 0 ∧ Put d B' s₁ T' ∧ Laid B B' q (q + len) (fun j => Value.int (lo8 (cv A (o + (j - q))))) ∧
      Steps p.tables e below (s₁.setTop (entryFrame m #[.ref b, .int (Int32.ofNat o), .ref d, .int (Int32.ofNat q), .int (Int32.ofNat len)] 7)) (T'.setTop (mkF m 3 #[.val (.ref b), .val (.int (Int32.ofNat (o + len))), .val (.ref d), .val (.int (Int32.ofNat (q + len))), .val (.int (Int32.ofNat len)), .val (.int (Int32.ofNat len)), z'] [])) := by
    intro r
    induction r with
    | zero =>
      intro i hi z hz Tl Bk Xl pl fl cl
      have hil : i = len := by omega
      rw [hil] at Xl fl cl
      exact ⟨Tl, Bk, z, Xl, pl, fl, cl⟩
    | succ r ih =>
      intro i hi z hz Tl Bk Xl pl fl cl
      have all := X0.warmed.alike.symm.trans Xl.warmed.alike
      have hAl := hA0.keep all (pl.other hne hA0.1)
      have hBk := hB0.like all pl.1 fl.1 fl.2.1 fl.2.2.1
      have hlt : q + i < Bk.slots.size := by rw [fl.2.2.1]; omega
      have c3 : Steps p.tables e below (s₁.setTop (entryFrame m #[.ref b, .int (Int32.ofNat o), .ref d, .int (Int32.ofNat q), .int (Int32.ofNat len)] 7)) (Tl.setTop (mkF m 12 #[.val (.ref b), .val (.int (Int32.ofNat (o + i))), .val (.ref d), .val (.int (Int32.ofNat (q + i))), .val (.int (Int32.ofNat len)), .val (.int (Int32.ofNat i)), z] [.int (Int32.ofNat (o + i)), .ref b])) := cl.trans (by
        refine XS.iload Xl.here hexec rfl (hb hbytes d3) rfl ?_
        refine XS.iload Xl.here hexec rfl (hb hbytes d5) rfl ?_
        refine XS.icmpNo Xl.here hexec rfl (hb hbytes d7) rfl (ii_ge_f (lt32 (by omega) (by omega))) ?_
        refine XS.aloadN Xl.here hexec rfl (hb hbytes d10) rfl rfl ?_
        refine XS.iloadN Xl.here hexec rfl (hb hbytes d11) rfl ?_
        exact Steps.refl _)
      have c4 : Steps p.tables e below (s₁.setTop (entryFrame m #[.ref b, .int (Int32.ofNat o), .ref d, .int (Int32.ofNat q), .int (Int32.ofNat len)] 7)) (Tl.setTop (mkF m 13 #[.val (.ref b), .val (.int (Int32.ofNat (o + i))), .val (.ref d), .val (.int (Int32.ofNat (q + i))), .val (.int (Int32.ofNat len)), .val (.int (Int32.ofNat i)), z] [.int (cv A (o + i))])) := c3.trans (by
        refine Xl.aget hexec hAl rfl (hA.get (i := o + i) (by omega)) rfl rfl (hb hbytes d12) ?_
        exact Steps.refl _)
      have c5 : Steps p.tables e below (s₁.setTop (entryFrame m #[.ref b, .int (Int32.ofNat o), .ref d, .int (Int32.ofNat q), .int (Int32.ofNat len)] 7)) (Tl.setTop (mkF m 15 #[.val (.ref b), .val (.int (Int32.ofNat (o + i))), .val (.ref d), .val (.int (Int32.ofNat (q + i))), .val (.int (Int32.ofNat len)), .val (.int (Int32.ofNat i)), .val (.int (cv A (o + i)))] [])) := c4.trans (by
        refine XS.istoreS Xl.here hexec rfl (hb hbytes d13) rfl rfl hz ?_
        exact Steps.refl _)
      have c6 : Steps p.tables e below (s₁.setTop (entryFrame m #[.ref b, .int (Int32.ofNat o), .ref d, .int (Int32.ofNat q), .int (Int32.ofNat len)] 7)) (Tl.setTop (mkF m 31 #[.val (.ref b), .val (.int (Int32.ofNat (o + i))), .val (.ref d), .val (.int (Int32.ofNat (q + i))), .val (.int (Int32.ofNat len)), .val (.int (Int32.ofNat i)), .val (.int (cv A (o + i)))] [.int (lo8 (cv A (o + i))), .int (Int32.ofNat (q + i)), .ref d])) := c5.trans (by
        refine XS.iload Xl.here hexec rfl (hb hbytes d15) rfl ?_
        refine sipushV Xl.here hexec rfl 255 (hb hbytes d17) (by decide) ?_
        refine XS.icmpYes Xl.here hexec rfl (pc0 := 20) rfl (hb hbytes d20) rfl (ii_le_t (hp i (by omega))) (by decide) rfl ?_
        refine XS.aloadN Xl.here hexec rfl (hb hbytes d26) rfl rfl ?_
        refine XS.iloadN Xl.here hexec rfl (hb hbytes d27) rfl ?_
        refine XS.iload Xl.here hexec rfl (hb hbytes d28) rfl ?_
        refine i2b Xl.here hexec rfl (hb hbytes d30) rfl ?_
        exact Steps.refl _)
      obtain ⟨T7, X7, p7, st7⟩ := Xl.aput hexec hBk rfl hlt rfl (fits_lo8 (cv A (o + i))) (g := (mkF m 31 #[.val (.ref b), .val (.int (Int32.ofNat (o + i))), .val (.ref d), .val (.int (Int32.ofNat (q + i))), .val (.int (Int32.ofNat len)), .val (.int (Int32.ofNat i)), .val (.int (cv A (o + i)))] [.int (lo8 (cv A (o + i))), .int (Int32.ofNat (q + i)), .ref d])) rfl (rest := []) rfl (hb hbytes d31)
      have c8 : Steps p.tables e below (s₁.setTop (entryFrame m #[.ref b, .int (Int32.ofNat o), .ref d, .int (Int32.ofNat q), .int (Int32.ofNat len)] 7)) (T7.setTop (mkF m 32 #[.val (.ref b), .val (.int (Int32.ofNat (o + i))), .val (.ref d), .val (.int (Int32.ofNat (q + i))), .val (.int (Int32.ofNat len)), .val (.int (Int32.ofNat i)), .val (.int (cv A (o + i)))] [])) := c6.trans (st7 _ (Steps.refl _))
      have c9 : Steps p.tables e below (s₁.setTop (entryFrame m #[.ref b, .int (Int32.ofNat o), .ref d, .int (Int32.ofNat q), .int (Int32.ofNat len)] 7)) (T7.setTop (mkF m 3 #[.val (.ref b), .val (.int (Int32.ofNat (o + i) + 1)), .val (.ref d), .val (.int (Int32.ofNat (q + i) + 1)), .val (.int (Int32.ofNat len)), .val (.int (Int32.ofNat i + 1)), .val (.int (cv A (o + i)))] [])) := c8.trans (by
        refine iincV X7.here hexec rfl 1 (hb hbytes d32) (by decide) rfl rfl ?_
        refine iincV X7.here hexec rfl 1 (hb hbytes d35) (by decide) rfl rfl ?_
        refine iincV X7.here hexec rfl 1 (hb hbytes d38) (by decide) rfl rfl ?_
        refine XS.goto X7.here hexec rfl (pc0 := 41) rfl (hb hbytes d41) (by decide) rfl ?_
        exact Steps.refl _)
      have c10 : Steps p.tables e below (s₁.setTop (entryFrame m #[.ref b, .int (Int32.ofNat o), .ref d, .int (Int32.ofNat q), .int (Int32.ofNat len)] 7)) (T7.setTop (mkF m 3 #[.val (.ref b), .val (.int (Int32.ofNat (o + (i + 1)))), .val (.ref d), .val (.int (Int32.ofNat (q + (i + 1)))), .val (.int (Int32.ofNat len)), .val (.int (Int32.ofNat (i + 1))), .val (.int (cv A (o + i)))] [])) := by
        have := c9
        rw [succ32, succ32, succ32] at this
        exact this
      exact ih (i + 1) (by omega) _ (Or.inr ⟨_, rfl, rfl⟩) T7 _ (by rw [copyLocs_step, ← List.append_assoc]; exact X7) (pl.trans p7) (fl.step (by omega) hlt (by simp)) c10
  obtain ⟨T9, B9, z9, X9, p9, f9, g9⟩ := loop len 0 (by omega) .unset (Or.inl rfl) s₁ B (by simpa [copyLocs] using X0) ⟨hB0.1, fun _ _ => rfl, rfl⟩ (Laid.zero _ _ _) c2
  have c11 : Steps p.tables e below (s₁.setTop (entryFrame m #[.ref b, .int (Int32.ofNat o), .ref d, .int (Int32.ofNat q), .int (Int32.ofNat len)] 7)) (T9.setTop (mkF m 46 #[.val (.ref b), .val (.int (Int32.ofNat (o + len))), .val (.ref d), .val (.int (Int32.ofNat (q + len))), .val (.int (Int32.ofNat len)), .val (.int (Int32.ofNat len)), z9] [.int (Int32.ofNat len)])) := g9.trans (by
    refine XS.iload X9.here hexec rfl (hb hbytes d3) rfl ?_
    refine XS.iload X9.here hexec rfl (hb hbytes d5) rfl ?_
    refine XS.icmpYes X9.here hexec rfl (pc0 := 7) rfl (hb hbytes d7) rfl (ii_ge_t (nlt32 (by omega) (Nat.le_refl _))) (by decide) rfl ?_
    refine XS.iload X9.here hexec rfl (hb hbytes d44) rfl ?_
    exact Steps.refl _)
  exact ⟨T9, some (.int (Int32.ofNat len)), _, _, _, X9, by simp, rfl, rfl, (fun h => by cases h), ⟨rfl, B9, p9.from hh0, f9⟩, fun fs hl => c11.trans (X9.ireturnOut hexec hret rfl (Or.inl rfl) (hb hbytes d46) hl)⟩
end Cmp5
namespace Cmp3
def yN : MethodName := ⟨"java/lang/StringUTF16", "compress", "([CII)[B"⟩
abbrev yB : ByteArray := jdk_52_method_16_code
theorem d0 : decode yB 0 = .ok (.iload_n 2, 1) := by decide +kernel
theorem d1 : decode yB 1 = .ok (.newarray .byte, 2) := by decide +kernel
theorem d3 : decode yB 3 = .ok (.astore_n 3, 1) := by decide +kernel
theorem d4 : decode yB 4 = .ok (.aload_n 0, 1) := by decide +kernel
theorem d5 : decode yB 5 = .ok (.iload_n 1, 1) := by decide +kernel
theorem d6 : decode yB 6 = .ok (.aload_n 3, 1) := by decide +kernel
theorem d7 : decode yB 7 = .ok (.iconst 0, 1) := by decide +kernel
theorem d8 : decode yB 8 = .ok (.iload_n 2, 1) := by decide +kernel
theorem d9 : decode yB 9 = .ok (.invokestatic 115, 3) := by decide +kernel
theorem d12 : decode yB 12 = .ok (.istore 4, 2) := by decide +kernel
theorem d14 : decode yB 14 = .ok (.iload 4, 2) := by decide +kernel
theorem d16 : decode yB 16 = .ok (.iload_n 2, 1) := by decide +kernel
theorem d17 : decode yB 17 = .ok (.if_icmp (.eq) 40, 3) := by decide +kernel
theorem d57 : decode yB 57 = .ok (.aload_n 3, 1) := by decide +kernel
theorem d58 : decode yB 58 = .ok (.areturn, 1) := by decide +kernel
def site : List Cond := [.arrayClass .byte, Cmp5.tab] ++ staticW U16 115 Cmp5.yN
def tab : Cond := tabOf yN yB 6 (some (.array .byte)) site
def P (b : Addr) (A : Cell) (o len : Nat) (args : Array Value) (s : State) : Prop := args = #[.ref b, .int (Int32.ofNat o), .int (Int32.ofNat len)] ∧ Ch b A s ∧ o + len ≤ A.slots.size ∧ len ≤ 536870912 ∧ ∀ i, i < len → ¬ 255 < cv A (o + i)
def E (b : Addr) (A : Cell) (o len : Nat) (r : Option Value) (s u : State) : Prop := NewArr .byte "[B" len (fun j => .int (lo8 (cv A (o + j)))) r s u ∧ u.heap.size = s.heap.size + 1
/-- no char of the range above 255: a new byte[] of their low bytes -/
theorem law (l : Launch) (b : Addr) (A : Cell) (o len : Nat) : Law l yN 3 3 1 18 yB 6 (some (.array .byte)) site (P b A o len) (E b A o len) [] 1 len := by
  refine Law.of_walk (plainFor_of_name (by decide +kernel)) (by decide +kernel) (by decide +kernel) (by decide) (fun _ _ h => by rw [h.1]; rfl) (fun _ U U' hal hh h => ⟨h.1, h.2.1.mv hal hh, h.2.2⟩) (fun r U U' V V' h1 hal h2 h => ⟨NewArr.mv r U U' V V' h1 hal h2 h.1, by rw [h1, h2]; exact h.2⟩) ?_
  intro p e s m args below meth c s₁ X0 hexec hbytes hml hret hlk hnm hown hh0 W hP
  obtain ⟨rfl, hA, l1, l2, hp⟩ := hP
  have a31 := hA.1.2.2.2
  have c1 : Steps p.tables e below (s₁.setTop (entryFrame m #[.ref b, .int (Int32.ofNat o), .int (Int32.ofNat len)] 6)) (s₁.setTop (mkF m 0 #[.val (.ref b), .val (.int (Int32.ofNat o)), .val (.int (Int32.ofNat len)), .unset, .unset, .unset] [])) := entry rfl
  have c2 : Steps p.tables e below (s₁.setTop (entryFrame m #[.ref b, .int (Int32.ofNat o), .int (Int32.ofNat len)] 6)) (s₁.setTop (mkF m 1 #[.val (.ref b), .val (.int (Int32.ofNat o)), .val (.int (Int32.ofNat len)), .unset, .unset, .unset] [.int (Int32.ofNat len)])) := c1.trans (by
    refine XS.iloadN X0.here hexec rfl (hb hbytes d0) rfl ?_
    exact Steps.refl _)
  obtain ⟨T3, B3, X3, ba3, bs3, bv3, bh3, bf3, st3⟩ := X0.anew hexec (atype := .byte) (wk W (.arrayClass .byte)) rfl (by show len * 1 ≤ _; omega) (by omega) (g := (mkF m 1 #[.val (.ref b), .val (.int (Int32.ofNat o)), .val (.int (Int32.ofNat len)), .unset, .unset, .unset] [.int (Int32.ofNat len)])) rfl (hb hbytes d1) (rest := []) rfl (Nat.le_refl _) (by show 0 + len ≤ len; omega)
  rw [hh0] at ba3 st3
  have kp3 : XT.Kept s T3 := (XT.Kept.of_eq hh0).push bh3
  have hA3 := hA.keep X3.warmed.alike (kp3 _ _ hA.1.1)
  have hne : b ≠ s.heap.size := hA.1.ne
  have c4 : Steps p.tables e below (s₁.setTop (entryFrame m #[.ref b, .int (Int32.ofNat o), .int (Int32.ofNat len)] 6)) (T3.setTop (mkF m 3 #[.val (.ref b), .val (.int (Int32.ofNat o)), .val (.int (Int32.ofNat len)), .unset, .unset, .unset] [.ref s.heap.size])) := c2.trans (st3 _ (Steps.refl _))
  have c5 : Steps p.tables e below (s₁.setTop (entryFrame m #[.ref b, .int (Int32.ofNat o), .int (Int32.ofNat len)] 6)) (T3.setTop (mkF m 9 #[.val (.ref b), .val (.int (Int32.ofNat o)), .val (.int (Int32.ofNat len)), .val (.ref s.heap.size), .unset, .unset] [.int (Int32.ofNat len), .int 0, .ref s.heap.size, .int (Int32.ofNat o), .ref b])) := c4.trans (by
    refine XS.astoreN X3.here hexec rfl (hb hbytes d3) rfl rfl rfl ?_
    refine XS.aloadN X3.here hexec rfl (hb hbytes d4) rfl rfl ?_
    refine XS.iloadN X3.here hexec rfl (hb hbytes d5) rfl ?_
    refine XS.aloadN X3.here hexec rfl (hb hbytes d6) rfl rfl ?_
    refine iconstV X3.here hexec rfl 0 (hb hbytes d7) (by decide) ?_
    refine XS.iloadN X3.here hexec rfl (hb hbytes d8) rfl ?_
    exact Steps.refl _)
  obtain ⟨v6, T6, X6, E6, g6⟩ := X3.callS hexec (Cmp5.law l b A s.heap.size B3 o 0 len) hown (wks W (staticW U16 115 Cmp5.yN)) (wk W Cmp5.tab) (W := 0) (Nat.le_of_ble_eq_true rfl) (Nat.le_of_ble_eq_true rfl) (Nat.le_refl _) (by show 0 + len + 0 ≤ len; omega) (g := (mkF m 9 #[.val (.ref b), .val (.int (Int32.ofNat o)), .val (.int (Int32.ofNat len)), .val (.ref s.heap.size), .unset, .unset] [.int (Int32.ofNat len), .int (Int32.ofNat 0), .ref s.heap.size, .int (Int32.ofNat o), .ref b])) rfl (by rw [hml]; rfl) c5 (argsL := [.ref b, .int (Int32.ofNat o), .ref s.heap.size, .int (Int32.ofNat 0), .int (Int32.ofNat len)]) (rest := []) rfl rfl (by show 2 * 0 + 0 ≤ _; decide) (hb hbytes d9) (⟨rfl, hA3, ba3, hne, l1, by rw [bs3]; simp, hp⟩)
  obtain ⟨rfl, B6, p6, f6⟩ := E6
  have c7 : Steps p.tables e below (s₁.setTop (entryFrame m #[.ref b, .int (Int32.ofNat o), .int (Int32.ofNat len)] 6)) (T6.setTop (mkF m 12 #[.val (.ref b), .val (.int (Int32.ofNat o)), .val (.int (Int32.ofNat len)), .val (.ref s.heap.size), .unset, .unset] [.int (Int32.ofNat len)])) := g6
  have c8 : Steps p.tables e below (s₁.setTop (entryFrame m #[.ref b, .int (Int32.ofNat o), .int (Int32.ofNat len)] 6)) (T6.setTop (mkF m 58 #[.val (.ref b), .val (.int (Int32.ofNat o)), .val (.int (Int32.ofNat len)), .val (.ref s.heap.size), .val (.int (Int32.ofNat len)), .unset] [.ref s.heap.size])) := c7.trans (by
    refine XS.istore X6.here hexec rfl (hb hbytes d12) rfl rfl ?_
    refine XS.iload X6.here hexec rfl (hb hbytes d14) rfl ?_
    refine XS.iloadN X6.here hexec rfl (hb hbytes d16) rfl ?_
    refine XS.icmpYes X6.here hexec rfl (pc0 := 17) rfl (hb hbytes d17) rfl (ii_eq_t rfl) (by decide) rfl ?_
    refine XS.aloadN X6.here hexec rfl (hb hbytes d57) rfl rfl ?_
    exact Steps.refl _)
  have X8 := X6.wide (L' := []) (cells' := 1) (slots' := len) (fun x hx hlt => by
    simp only [List.nil_append, copyLocs, List.mem_map, List.mem_range] at hx
    obtain ⟨i, -, rfl⟩ := hx
    exact absurd hlt (Nat.lt_irrefl _)) (Nat.le_refl _) (by omega)
  exact ⟨T6, some (.ref s.heap.size), _, _, _, X8, rfl, rfl, rfl, (fun h => by cases h), ⟨⟨rfl, B6, ba3.like (X3.warmed.alike.symm.trans X6.warmed.alike) p6.1 f6.1 f6.2.1 f6.2.2.1, f6.2.1.trans bv3, by rw [X6.warmed.alike.findClass, f6.1]; exact bf3, by rw [f6.2.2.1, bs3]; simp, fun j hj => by rw [f6.2.2.2 j, if_pos (by omega)]; rfl, kp3.put p6 (Nat.le_refl _)⟩, by rw [p6.2.2, bh3, hh0]; simp⟩, fun fs hl => c8.trans (X8.areturnOut hexec rfl hret rfl (hb hbytes d58) hl)⟩
end Cmp3
namespace CodL
def yN : MethodName := ⟨"java/lang/StringUTF16", "coderFromArrayLen", "([BI)B"⟩
abbrev yB : ByteArray := jdk_52_method_15_code
theorem d0 : decode yB 0 = .ok (.iload_n 1, 1) := by decide +kernel
theorem d1 : decode yB 1 = .ok (.aload_n 0, 1) := by decide +kernel
theorem d2 : decode yB 2 = .ok (.arraylength, 1) := by decide +kernel
theorem d3 : decode yB 3 = .ok (.isub, 1) := by decide +kernel
theorem d4 : decode yB 4 = .ok (.bipush 31, 2) := by decide +kernel
theorem d6 : decode yB 6 = .ok (.iushr, 1) := by decide +kernel
theorem d7 : decode yB 7 = .ok (.i2b, 1) := by decide +kernel
theorem d8 : decode yB 8 = .ok (.ireturn, 1) := by decide +kernel
def site : List Cond := []
def tab : Cond := tabOf yN yB 2 (some .byte) site
def P (d : Addr) (B : Cell) (args : Array Value) (s : State) : Prop := args = #[.ref d, .int (Int32.ofNat B.slots.size)] ∧ Arr .byte d B s
def E (r : Option Value) (s u : State) : Prop := XT.PureE (some (.int 0)) r s u
/-- an array as long as the number of chars: LATIN1 -/
theorem law (l : Launch) (d : Addr) (B : Cell) : Law l yN 2 2 0 0 yB 2 (some .byte) site (P d B) E [] 0 0 := by
  refine Law.of_walk (plainFor_of_name (by decide +kernel)) (by decide +kernel) (by decide +kernel) (by decide) (fun _ _ h => by rw [h.1]; rfl) (fun _ U U' hal hh h => ⟨h.1, h.2.mv hal hh⟩) (fun r U U' V V' h1 hal h2 h => XT.PureE.mv r U U' V V' h1 hal h2 h) ?_
  intro p e s m args below meth c s₁ X0 hexec hbytes hml hret hlk hnm hown hh0 W hP
  obtain ⟨rfl, hB⟩ := hP
  have hB0 := hB.mv X0.warmed.alike hh0
  have c1 : Steps p.tables e below (s₁.setTop (entryFrame m #[.ref d, .int (Int32.ofNat B.slots.size)] 2)) (s₁.setTop (mkF m 0 #[.val (.ref d), .val (.int (Int32.ofNat B.slots.size))] [])) := entry rfl
  have c2 : Steps p.tables e below (s₁.setTop (entryFrame m #[.ref d, .int (Int32.ofNat B.slots.size)] 2)) (s₁.setTop (mkF m 2 #[.val (.ref d), .val (.int (Int32.ofNat B.slots.size))] [.ref d, .int (Int32.ofNat B.slots.size)])) := c1.trans (by
    refine XS.iloadN X0.here hexec rfl (hb hbytes d0) rfl ?_
    refine XS.aloadN X0.here hexec rfl (hb hbytes d1) rfl rfl ?_
    exact Steps.refl _)
  have c3 : Steps p.tables e below (s₁.setTop (entryFrame m #[.ref d, .int (Int32.ofNat B.slots.size)] 2)) (s₁.setTop (mkF m 8 #[.val (.ref d), .val (.int (Int32.ofNat B.slots.size))] [.int (lo8 (ushr (Int32.ofNat B.slots.size - Int32.ofNat B.slots.size) 31))])) := c2.trans (by
    refine X0.alen hexec hB0 rfl rfl (hb hbytes d2) ?_
    refine XS.isub X0.here hexec rfl (hb hbytes d3) rfl ?_
    refine bipushV X0.here hexec rfl 31 (hb hbytes d4) (by decide) ?_
    refine iushr X0.here hexec rfl (hb hbytes d6) rfl ?_
    refine i2b X0.here hexec rfl (hb hbytes d7) rfl ?_
    exact Steps.refl _)
  have e0 : lo8 (ushr (Int32.ofNat B.slots.size - Int32.ofNat B.slots.size) 31) = 0 := by rw [Int32.sub_self]; decide
  rw [e0] at c3
  exact ⟨s₁, some (.int 0), _, _, _, X0, rfl, rfl, rfl, (fun h => by cases h), ⟨rfl, hh0⟩, fun fs hl => c3.trans (X0.ireturnOut hexec hret rfl (Or.inr (Or.inr (Or.inl rfl))) (hb hbytes d8) hl)⟩
end CodL
/-- the String at a is Latin-1 over a new byte[] (the heap's one new cell): the low bytes of the len chars of A from o on; every cell but a is kept -/
def Got (a : Addr) (D : Cell) (fV fC : Field) (A : Cell) (o len : Nat) (r : Option Value) (s u : State) : Prop := r = none ∧ ∃ D' V : Cell, Blank "java/lang/String" a D' u ∧ Same D D' [fV.slot, fC.slot] ∧ D'.slots[fV.slot]? = some (.ref s.heap.size) ∧ D'.slots[fC.slot]? = some (.int 0) ∧ Arr .byte s.heap.size V u ∧ V.vm = .none ∧ u.vm.findClass "[B" = some V.cls ∧ V.slots.size = len ∧ (∀ j, j < len → V.slots[j]? = some (.int (lo8 (cv A (o + j))))) ∧ (∀ (y : Addr) (c : Cell), y ≠ a → s.heap[y]? = some c → u.heap[y]? = some c) ∧ u.heap.size = s.heap.size + 1
theorem Got.mv {a : Addr} {D A : Cell} {fV fC : Field} {o len : Nat} : ∀ r (U U' V V' : State), U'.heap = U.heap → V.vm.Alike V'.vm → V'.heap = V.heap → Got a D fV fC A o len r U V → Got a D fV fC A o len r U' V' :=
  fun r U U' V V' h1 hal h2 ⟨e0, D', X, a1, a2, a3, a4, a5, a6, a7, a8, a9, a10, a11⟩ => ⟨e0, D', X, a1.mv hal h2, a2, by rw [h1]; exact a3, a4, by rw [h1]; exact a5.mv hal h2, a6, by rw [hal.findClass]; exact a7, a8, a9, by rw [h1, h2]; exact a10, by rw [h1, h2]; exact a11⟩
namespace New4
def yN : MethodName := ⟨"java/lang/String", "<init>", "([CIILjava/lang/Void;)V"⟩
abbrev yB : ByteArray := jdk_42_method_149_code
theorem d0 : decode yB 0 = .ok (.aload_n 0, 1) := by decide +kernel
theorem d1 : decode yB 1 = .ok (.invokespecial 1, 3) := by decide +kernel
theorem d4 : decode yB 4 = .ok (.iload_n 3, 1) := by decide +kernel
theorem d5 : decode yB 5 = .ok (.ifCond (.ne) 22, 3) := by decide +kernel
theorem d27 : decode yB 27 = .ok (.getstatic 38, 3) := by decide +kernel
theorem d30 : decode yB 30 = .ok (.ifCond (.eq) 28, 3) := by decide +kernel
theorem d33 : decode yB 33 = .ok (.aload_n 1, 1) := by decide +kernel
theorem d34 : decode yB 34 = .ok (.iload_n 2, 1) := by decide +kernel
theorem d35 : decode yB 35 = .ok (.iload_n 3, 1) := by decide +kernel
theorem d36 : decode yB 36 = .ok (.invokestatic 177, 3) := by decide +kernel
theorem d39 : decode yB 39 = .ok (.astore 5, 2) := by decide +kernel
theorem d41 : decode yB 41 = .ok (.aload_n 0, 1) := by decide +kernel
theorem d42 : decode yB 42 = .ok (.aload 5, 2) := by decide +kernel
theorem d44 : decode yB 44 = .ok (.iload_n 3, 1) := by decide +kernel
theorem d45 : decode yB 45 = .ok (.invokestatic 47, 3) := by decide +kernel
theorem d48 : decode yB 48 = .ok (.putfield 15, 3) := by decide +kernel
theorem d51 : decode yB 51 = .ok (.aload_n 0, 1) := by decide +kernel
theorem d52 : decode yB 52 = .ok (.aload 5, 2) := by decide +kernel
theorem d54 : decode yB 54 = .ok (.putfield 9, 3) := by decide +kernel
theorem d57 : decode yB 57 = .ok (.return_, 1) := by decide +kernel
def site : List Cond := [.fieldLink "java/lang/String" 38 "java/lang/String" "COMPACT_STRINGS" "Z", Cmp3.tab, CodL.tab, .laysFinal "java/lang/String" "java/lang/String" "value" "[B", .fieldLink "java/lang/String" 9 "java/lang/String" "value" "[B", .laysFinal "java/lang/String" "java/lang/String" "coder" "B", .fieldLink "java/lang/String" 15 "java/lang/String" "coder" "B"] ++ objW "java/lang/String" 1 ++ staticW "java/lang/String" 177 Cmp3.yN ++ staticW "java/lang/String" 47 CodL.yN
def tab : Cond := tabOf yN yB 6 none site
def P (a : Addr) (D : Cell) (fV fC : Field) (b : Addr) (A : Cell) (z : Int32) (o len : Nat) (args : Array Value) (s : State) : Prop := args = #[.ref a, .ref b, .int (Int32.ofNat o), .int (Int32.ofNat len), .null] ∧ Blank "java/lang/String" a D s ∧ Found "java/lang/String" "value" "[B" fV s ∧ Found "java/lang/String" "coder" "B" fC s ∧ Ch b A s ∧ StaticIs s "java/lang/String" "COMPACT_STRINGS" "Z" (.int z) ∧ ¬ z = 0 ∧ 0 < len ∧ o + len ≤ A.slots.size ∧ len ≤ 536870912 ∧ ∀ i, i < len → ¬ 255 < cv A (o + i)
def E (a : Addr) (D : Cell) (fV fC : Field) (A : Cell) (o len : Nat) (r : Option Value) (s u : State) : Prop := Got a D fV fC A o len r s u
/-- len > 0, no char of the range above 255: a Latin-1 String of their low bytes -/
theorem law (l : Launch) (a : Addr) (D : Cell) (fV fC : Field) (b : Addr) (A : Cell) (z : Int32) (o len : Nat) : Law l yN 5 4 2 35 yB 6 none site (P a D fV fC b A z o len) (E a D fV fC A o len) [⟨a, fC.slot⟩, ⟨a, fV.slot⟩] 1 len := by
  refine Law.of_walk (plainFor_of_name (by decide +kernel)) (by decide +kernel) (by decide +kernel) (by decide) (fun _ _ h => by rw [h.1]; rfl) (fun _ U U' hal hh h => ⟨h.1, h.2.1.mv hal hh, h.2.2.1.al hal, h.2.2.2.1.al hal, h.2.2.2.2.1.mv hal hh, h.2.2.2.2.2.1.there hal hh, h.2.2.2.2.2.2⟩) (fun r U U' V V' h1 hal h2 h => Got.mv r U U' V V' h1 hal h2 h) ?_
  intro p e s m args below meth c s₁ X0 hexec hbytes hml hret hlk hnm hown hh0 W hP
  obtain ⟨rfl, hB, f1, f2, hA, s1, hz, l0, l1, l2, hp⟩ := hP
  have a31 := hA.1.2.2.2
  have c1 : Steps p.tables e below (s₁.setTop (entryFrame m #[.ref a, .ref b, .int (Int32.ofNat o), .int (Int32.ofNat len), .null] 6)) (s₁.setTop (mkF m 0 #[.val (.ref a), .val (.ref b), .val (.int (Int32.ofNat o)), .val (.int (Int32.ofNat len)), .val .null, .unset] [])) := entry rfl
  have c2 : Steps p.tables e below (s₁.setTop (entryFrame m #[.ref a, .ref b, .int (Int32.ofNat o), .int (Int32.ofNat len), .null] 6)) (s₁.setTop (mkF m 1 #[.val (.ref a), .val (.ref b), .val (.int (Int32.ofNat o)), .val (.int (Int32.ofNat len)), .val .null, .unset] [.ref a])) := c1.trans (by
    refine XS.aloadN X0.here hexec rfl (hb hbytes d0) rfl rfl ?_
    exact Steps.refl _)
  obtain ⟨T3, X3, q3, st3⟩ := X0.oinit hexec hown (wks W (objW "java/lang/String" 1)) (g := (mkF m 1 #[.val (.ref a), .val (.ref b), .val (.int (Int32.ofNat o)), .val (.int (Int32.ofNat len)), .val .null, .unset] [.ref a])) rfl (by rw [hml]; rfl) (rest := []) rfl (hb hbytes d1) (W := 0) (by show 2 * 0 + 0 ≤ _; decide) (Nat.le_of_ble_eq_true rfl) (Nat.le_of_ble_eq_true rfl)
  have hh3 := q3.trans hh0
  have c4 : Steps p.tables e below (s₁.setTop (entryFrame m #[.ref a, .ref b, .int (Int32.ofNat o), .int (Int32.ofNat len), .null] 6)) (T3.setTop (mkF m 27 #[.val (.ref a), .val (.ref b), .val (.int (Int32.ofNat o)), .val (.int (Int32.ofNat len)), .val .null, .unset] [])) := (c2.trans (st3 _ (Steps.refl _))).trans (by
    refine XS.iloadN X3.here hexec rfl (hb hbytes d4) rfl ?_
    refine XS.ifYes X3.here hexec rfl (pc0 := 5) rfl (hb hbytes d5) rfl (i0_ne_t (nz32 (by omega) l0)) (by decide) rfl ?_
    exact Steps.refl _)
  obtain ⟨T5, X5, q5, st5⟩ := X3.sget hexec hown (wk W (.fieldLink "java/lang/String" 38 "java/lang/String" "COMPACT_STRINGS" "Z")) s1 (fun _ _ h => by rw [hh3]; exact h) (g := (mkF m 27 #[.val (.ref a), .val (.ref b), .val (.int (Int32.ofNat o)), .val (.int (Int32.ofNat len)), .val .null, .unset] [])) rfl (hb hbytes d27)
  have hh5 := q5.trans hh3
  have c6 : Steps p.tables e below (s₁.setTop (entryFrame m #[.ref a, .ref b, .int (Int32.ofNat o), .int (Int32.ofNat len), .null] 6)) (T5.setTop (mkF m 30 #[.val (.ref a), .val (.ref b), .val (.int (Int32.ofNat o)), .val (.int (Int32.ofNat len)), .val .null, .unset] [.int z])) := c4.trans (st5 _ (Steps.refl _))
  have c7 : Steps p.tables e below (s₁.setTop (entryFrame m #[.ref a, .ref b, .int (Int32.ofNat o), .int (Int32.ofNat len), .null] 6)) (T5.setTop (mkF m 36 #[.val (.ref a), .val (.ref b), .val (.int (Int32.ofNat o)), .val (.int (Int32.ofNat len)), .val .null, .unset] [.int (Int32.ofNat len), .int (Int32.ofNat o), .ref b])) := c6.trans (by
    refine XS.ifNo X5.here hexec rfl (hb hbytes d30) rfl (i0_eq_f hz) ?_
    refine XS.aloadN X5.here hexec rfl (hb hbytes d33) rfl rfl ?_
    refine XS.iloadN X5.here hexec rfl (hb hbytes d34) rfl ?_
    refine XS.iloadN X5.here hexec rfl (hb hbytes d35) rfl ?_
    exact Steps.refl _)
  obtain ⟨v8, T8, X8, E8, g8⟩ := X5.callS hexec (Cmp3.law l b A o len) hown (wks W (staticW "java/lang/String" 177 Cmp3.yN)) (wk W Cmp3.tab) (W := 0) (Nat.le_of_ble_eq_true rfl) (Nat.le_of_ble_eq_true rfl) (Nat.le_refl _) (by show 0 + len ≤ len; omega) (g := (mkF m 36 #[.val (.ref a), .val (.ref b), .val (.int (Int32.ofNat o)), .val (.int (Int32.ofNat len)), .val .null, .unset] [.int (Int32.ofNat len), .int (Int32.ofNat o), .ref b])) rfl (by rw [hml]; rfl) c7 (argsL := [.ref b, .int (Int32.ofNat o), .int (Int32.ofNat len)]) (rest := []) rfl rfl (by show 2 * 0 + 0 ≤ _; decide) (hb hbytes d36) (⟨rfl, hA.mv X5.warmed.alike hh5, l1, l2, hp⟩)
  obtain ⟨e8, z8⟩ := E8
  obtain ⟨rfl, N, n1, n2, n3, n4, n5, n6⟩ := NewArr.mv _ T5 s _ _ hh5.symm (Vm.Alike.refl _) rfl e8
  rw [hh5] at z8
  have hB1 := hB.keep X8.warmed.alike (n6 _ _ hB.1)
  have hne : s.heap.size ≠ a := (Nat.ne_of_lt (Array.getElem?_eq_some_iff.mp hB.1).1).symm
  have c9 : Steps p.tables e below (s₁.setTop (entryFrame m #[.ref a, .ref b, .int (Int32.ofNat o), .int (Int32.ofNat len), .null] 6)) (T8.setTop (mkF m 39 #[.val (.ref a), .val (.ref b), .val (.int (Int32.ofNat o)), .val (.int (Int32.ofNat len)), .val .null, .unset] [.ref s.heap.size])) := g8
  have c10 : Steps p.tables e below (s₁.setTop (entryFrame m #[.ref a, .ref b, .int (Int32.ofNat o), .int (Int32.ofNat len), .null] 6)) (T8.setTop (mkF m 45 #[.val (.ref a), .val (.ref b), .val (.int (Int32.ofNat o)), .val (.int (Int32.ofNat len)), .val .null, .val (.ref s.heap.size)] [.int (Int32.ofNat N.slots.size), .ref s.heap.size, .ref a])) := by
    have hc : Steps p.tables e below (s₁.setTop (entryFrame m #[.ref a, .ref b, .int (Int32.ofNat o), .int (Int32.ofNat len), .null] 6)) (T8.setTop (mkF m 45 #[.val (.ref a), .val (.ref b), .val (.int (Int32.ofNat o)), .val (.int (Int32.ofNat len)), .val .null, .val (.ref s.heap.size)] [.int (Int32.ofNat len), .ref s.heap.size, .ref a])) := c9.trans (by
      refine XS.astore X8.here hexec rfl (hb hbytes d39) rfl rfl rfl ?_
      refine XS.aloadN X8.here hexec rfl (hb hbytes d41) rfl rfl ?_
      refine XS.aload X8.here hexec rfl (hb hbytes d42) rfl rfl ?_
      refine XS.iloadN X8.here hexec rfl (hb hbytes d44) rfl ?_
      exact Steps.refl _)
    rw [n4]; exact hc
  obtain ⟨v11, T11, X11, E11, g11⟩ := X8.callS hexec (CodL.law l s.heap.size N) hown (wks W (staticW "java/lang/String" 47 CodL.yN)) (wk W CodL.tab) (W := 1) (Nat.le_of_ble_eq_true rfl) (Nat.le_of_ble_eq_true rfl) (Nat.le_refl _) (by show 0 + len + 0 ≤ len; omega) (g := (mkF m 45 #[.val (.ref a), .val (.ref b), .val (.int (Int32.ofNat o)), .val (.int (Int32.ofNat len)), .val .null, .val (.ref s.heap.size)] [.int (Int32.ofNat N.slots.size), .ref s.heap.size, .ref a])) rfl (by rw [hml]; rfl) c10 (argsL := [.ref s.heap.size, .int (Int32.ofNat N.slots.size)]) (rest := [.ref a]) rfl rfl (by show 2 * 0 + (1 + 0) ≤ _; decide) (hb hbytes d45) (⟨rfl, n1⟩)
  obtain ⟨rfl, q11⟩ := E11
  have hB11 := hB1.mv (X8.warmed.alike.symm.trans X11.warmed.alike) q11
  have c12 : Steps p.tables e below (s₁.setTop (entryFrame m #[.ref a, .ref b, .int (Int32.ofNat o), .int (Int32.ofNat len), .null] 6)) (T11.setTop (mkF m 48 #[.val (.ref a), .val (.ref b), .val (.int (Int32.ofNat o)), .val (.int (Int32.ofNat len)), .val .null, .val (.ref s.heap.size)] [.int 0, .ref a])) := g11
  obtain ⟨T13, X13, p13, bl13, sl13, st13⟩ := X11.finit hexec hown (wk W (.fieldLink "java/lang/String" 15 "java/lang/String" "coder" "B")) (Or.inr ⟨_, (wk W (.laysFinal "java/lang/String" "java/lang/String" "coder" "B"))⟩) (Or.inl ⟨rfl, hnm⟩) f2 (Or.inl rfl) hB11 (t := .byte) (by decide +kernel) rfl (g := (mkF m 48 #[.val (.ref a), .val (.ref b), .val (.int (Int32.ofNat o)), .val (.int (Int32.ofNat len)), .val .null, .val (.ref s.heap.size)] [.int 0, .ref a])) rfl (rest := []) rfl (hb hbytes d48)
  have c14 : Steps p.tables e below (s₁.setTop (entryFrame m #[.ref a, .ref b, .int (Int32.ofNat o), .int (Int32.ofNat len), .null] 6)) (T13.setTop (mkF m 54 #[.val (.ref a), .val (.ref b), .val (.int (Int32.ofNat o)), .val (.int (Int32.ofNat len)), .val .null, .val (.ref s.heap.size)] [.ref s.heap.size, .ref a])) := (c12.trans (st13 _ (Steps.refl _))).trans (by
    refine XS.aloadN X13.here hexec rfl (hb hbytes d51) rfl rfl ?_
    refine XS.aload X13.here hexec rfl (hb hbytes d52) rfl rfl ?_
    exact Steps.refl _)
  obtain ⟨T15, X15, p15, bl15, sl15, st15⟩ := X13.finit hexec hown (wk W (.fieldLink "java/lang/String" 9 "java/lang/String" "value" "[B")) (Or.inr ⟨_, (wk W (.laysFinal "java/lang/String" "java/lang/String" "value" "[B"))⟩) (Or.inl ⟨rfl, hnm⟩) f1 (Or.inl rfl) bl13 (t := (.array .byte)) (by decide +kernel) rfl (g := (mkF m 54 #[.val (.ref a), .val (.ref b), .val (.int (Int32.ofNat o)), .val (.int (Int32.ofNat len)), .val .null, .val (.ref s.heap.size)] [.ref s.heap.size, .ref a])) rfl (rest := []) rfl (hb hbytes d54)
  have c16 : Steps p.tables e below (s₁.setTop (entryFrame m #[.ref a, .ref b, .int (Int32.ofNat o), .int (Int32.ofNat len), .null] 6)) (T15.setTop (mkF m 57 #[.val (.ref a), .val (.ref b), .val (.int (Int32.ofNat o)), .val (.int (Int32.ofNat len)), .val .null, .val (.ref s.heap.size)] [])) := c14.trans (st15 _ (Steps.refl _))
  have ap := apart (Or.inr ⟨_, (wk W (.laysFinal "java/lang/String" "java/lang/String" "value" "[B"))⟩) (Or.inr ⟨_, (wk W (.laysFinal "java/lang/String" "java/lang/String" "coder" "B"))⟩) f1 f2 (t₁ := .array .byte) (t₂ := .byte) (by decide +kernel) (by decide +kernel) (by decide)
  have al := X8.warmed.alike.symm.trans X15.warmed.alike
  have n7 : T11.heap[s.heap.size]? = some N := by rw [q11]; exact n1.1
  exact ⟨T15, none, _, _, _, X15, by simp, rfl, by omega, (fun _ => rfl), ⟨rfl, _, N, bl15, ((Same.refl D _).set _ (by simp)).set _ (by simp), sl15, (Cell.slots_setSlot_ne _ ap).trans sl13, n1.keep al (p15.other hne (p13.other hne n7)), n2, by rw [al.findClass]; exact n3, n4, n5, fun y c h1 h2 => p15.other h1 (p13.other h1 (by rw [q11]; exact n6 y c h2)), by rw [p15.2.2, p13.2.2, q11]; exact z8⟩, fun fs hl => c16.trans (X15.returnOut hexec hret (hb hbytes d57) hl)⟩
end New4
namespace New1
def yN : MethodName := ⟨"java/lang/String", "<init>", "([C)V"⟩
abbrev yB : ByteArray := jdk_42_method_3_code
theorem d0 : decode yB 0 = .ok (.aload_n 0, 1) := by decide +kernel
theorem d1 : decode yB 1 = .ok (.aload_n 1, 1) := by decide +kernel
theorem d2 : decode yB 2 = .ok (.iconst 0, 1) := by decide +kernel
theorem d3 : decode yB 3 = .ok (.aload_n 1, 1) := by decide +kernel
theorem d4 : decode yB 4 = .ok (.arraylength, 1) := by decide +kernel
theorem d5 : decode yB 5 = .ok (.aconst_null, 1) := by decide +kernel
theorem d6 : decode yB 6 = .ok (.invokespecial 27, 3) := by decide +kernel
theorem d9 : decode yB 9 = .ok (.return_, 1) := by decide +kernel
def site : List Cond := [New4.tab] ++ initW "java/lang/String" 27 New4.yN
def tab : Cond := tabOf yN yB 2 none site
def P (a : Addr) (D : Cell) (fV fC : Field) (b : Addr) (A : Cell) (z : Int32) (args : Array Value) (s : State) : Prop := args = #[.ref a, .ref b] ∧ Blank "java/lang/String" a D s ∧ Found "java/lang/String" "value" "[B" fV s ∧ Found "java/lang/String" "coder" "B" fC s ∧ Ch b A s ∧ StaticIs s "java/lang/String" "COMPACT_STRINGS" "Z" (.int z) ∧ ¬ z = 0 ∧ 0 < A.slots.size ∧ A.slots.size ≤ 536870912 ∧ ∀ i, i < A.slots.size → ¬ 255 < cv A i
def E (a : Addr) (D : Cell) (fV fC : Field) (A : Cell) (r : Option Value) (s u : State) : Prop := Got a D fV fC A 0 A.slots.size r s u
/-- new String(chars), not empty, no char above 255: a Latin-1 String of their low bytes -/
theorem law (l : Launch) (a : Addr) (D : Cell) (fV fC : Field) (b : Addr) (A : Cell) (z : Int32) : Law l yN 2 1 3 52 yB 2 none site (P a D fV fC b A z) (E a D fV fC A) [⟨a, fC.slot⟩, ⟨a, fV.slot⟩] 1 A.slots.size := by
  refine Law.of_walk (plainFor_of_name (by decide +kernel)) (by decide +kernel) (by decide +kernel) (by decide) (fun _ _ h => by rw [h.1]; rfl) (fun _ U U' hal hh h => ⟨h.1, h.2.1.mv hal hh, h.2.2.1.al hal, h.2.2.2.1.al hal, h.2.2.2.2.1.mv hal hh, h.2.2.2.2.2.1.there hal hh, h.2.2.2.2.2.2⟩) (fun r U U' V V' h1 hal h2 h => Got.mv r U U' V V' h1 hal h2 h) ?_
  intro p e s m args below meth c s₁ X0 hexec hbytes hml hret hlk hnm hown hh0 W hP
  obtain ⟨rfl, hB, f1, f2, hA, s1, hz, l0, l2, hp⟩ := hP
  have c1 : Steps p.tables e below (s₁.setTop (entryFrame m #[.ref a, .ref b] 2)) (s₁.setTop (mkF m 0 #[.val (.ref a), .val (.ref b)] [])) := entry rfl
  have c2 : Steps p.tables e below (s₁.setTop (entryFrame m #[.ref a, .ref b] 2)) (s₁.setTop (mkF m 6 #[.val (.ref a), .val (.ref b)] [.null, .int (Int32.ofNat A.slots.size), .int 0, .ref b, .ref a])) := c1.trans (by
    refine XS.aloadN X0.here hexec rfl (hb hbytes d0) rfl rfl ?_
    refine XS.aloadN X0.here hexec rfl (hb hbytes d1) rfl rfl ?_
    refine iconstV X0.here hexec rfl 0 (hb hbytes d2) (by decide) ?_
    refine XS.aloadN X0.here hexec rfl (hb hbytes d3) rfl rfl ?_
    refine X0.alen hexec (hA.1.mv X0.warmed.alike hh0) rfl rfl (hb hbytes d4) ?_
    refine XS.aconstNull X0.here hexec rfl (hb hbytes d5) ?_
    exact Steps.refl _)
  obtain ⟨v3, T3, X3, E3, g3⟩ := X0.callN hexec (New4.law l a D fV fC b A z 0 A.slots.size) rfl hown (wks W (initW "java/lang/String" 27 New4.yN)) (W New4.tab (by simp only [site, List.mem_cons, List.mem_append, true_or, or_true])) (W := 0) (Nat.le_of_ble_eq_true rfl) (Nat.le_of_ble_eq_true rfl) (Nat.le_refl _) (by show 0 + A.slots.size ≤ A.slots.size; omega) (g := (mkF m 6 #[.val (.ref a), .val (.ref b)] [.null, .int (Int32.ofNat A.slots.size), .int (Int32.ofNat 0), .ref b, .ref a])) rfl (by rw [hml]; rfl) c2 (argsL := [.ref b, .int (Int32.ofNat 0), .int (Int32.ofNat A.slots.size), .null]) (rest := []) rfl rfl (by show 2 * 0 + 0 ≤ _; decide) (hb hbytes d6) (⟨rfl, hB.mv X0.warmed.alike hh0, f1.al X0.warmed.alike, f2.al X0.warmed.alike, hA.mv X0.warmed.alike hh0, s1.there X0.warmed.alike hh0, hz, l0, by omega, l2, fun i hi => by rw [Nat.zero_add]; exact hp i hi⟩)
  have e0 := Got.mv _ s₁ s _ _ hh0.symm (Vm.Alike.refl _) rfl E3
  obtain rfl := e0.1
  have c4 : Steps p.tables e below (s₁.setTop (entryFrame m #[.ref a, .ref b] 2)) (T3.setTop (mkF m 9 #[.val (.ref a), .val (.ref b)] [])) := g3
  exact ⟨T3, none, _, _, _, X3, by simp, rfl, by omega, (fun _ => rfl), e0, fun fs hl => c4.trans (X3.returnOut hexec hret (hb hbytes d9) hl)⟩
theorem pays {l : Launch} {R : Room} {p : Program} {e : Env} {below : List Frame} {s : State} {sargs : Array Value} {len W : Nat} (a : Addr) (D : Cell) (fV fC : Field) (b : Addr) (A : Cell) (z : Int32) (htab : tab.before sargs s = true) (hfr : 4 ≤ R.frames) (hlo : W + 65 ≤ R.locals) :
    Back l R p e below s sargs yN len W (fun A₁ a₁ => A₁.cells + 1 ≤ R.cells ∧ A₁.slots + A.slots.size ≤ R.slots ∧ P a D fV fC b A z a₁ A₁.U) (fun A₁ _ v₁ B₁ => E a D fV fC A v₁ A₁.U B₁.U ∧ B₁.locs = A₁.locs ++ [⟨a, fC.slot⟩, ⟨a, fV.slot⟩] ∧ B₁.cells = A₁.cells + 1 ∧ B₁.slots = A₁.slots + A.slots.size) :=
  (law l a D fV fC b A z).pays htab hfr (by omega)
end New1
/-- the byte, read back as charAt reads it, is the char -/
theorem lo8_mask {x : Int32} (h0 : ¬ x < 0) (h1 : ¬ 255 < x) : lo8 x &&& 255 = x := by
  have t : ∀ k : Fin 256, lo8 (Int32.ofNat k.val) &&& 255 = Int32.ofNat k.val := by decide +kernel
  rw [Int32.lt_iff_toInt_lt] at h0 h1
  have e0 : (0 : Int32).toInt = 0 := rfl
  have e1 : (255 : Int32).toInt = 255 := rfl
  obtain ⟨k, hk⟩ : ∃ k : Nat, x.toInt = k := ⟨x.toInt.toNat, by omega⟩
  have hx : x = Int32.ofNat k := Int32.toInt_inj.mp (by rw [hk, Int32.toInt_ofNat_small (by omega)])
  rw [hx]
  exact t ⟨k, by omega⟩
end StrChars
namespace StrChars.Road
open Jvm Sem ClassFile Op Lib Jvm.Stand Jvm.Free Jvm.Free.XT
open Jvm.Lib.Cold (StaticIs)
abbrev ST : String := "java/lang/String"
/-- every table word that New1's law asks, flat -/
abbrev words : List Jvm.Cond := [.code New1.yN New1.yB 2 none, .initialized ST, .methodLink ST 27 New4.yN, .instanceMethod New4.yN,
  .code New4.yN New4.yB 6 none, .fieldLink ST 38 ST "COMPACT_STRINGS" "Z", .laysFinal ST ST "value" "[B", .fieldLink ST 9 ST "value" "[B", .laysFinal ST ST "coder" "B", .fieldLink ST 15 ST "coder" "B",
  .methodLink ST 1 Lib.objectInit, .instanceMethod Lib.objectInit, .code Lib.objectInit ⟨#[0xb1]⟩ 1 none, .methodLink ST 177 Cmp3.yN, .static Cmp3.yN, .methodLink ST 47 CodL.yN, .static CodL.yN,
  .code Cmp3.yN Cmp3.yB 6 (some (.array .byte)), .initialized U16, .arrayClass .byte, .methodLink U16 115 Cmp5.yN, .static Cmp5.yN, .code Cmp5.yN Cmp5.yB 7 (some .int), .code CodL.yN CodL.yB 2 (some .byte)]
theorem tab_of {a : Array Value} {s : State} (h : ∀ w ∈ words, w.before a s = true) : New1.tab.before a s = true := by
  have h5 : Cmp5.tab.before a s = true := unparts (wk h (.code Cmp5.yN Cmp5.yB 7 (some .int))) (wks h (.initialized Cmp5.yN.cls :: Cmp5.site))
  have hc : CodL.tab.before a s = true := unparts (wk h (.code CodL.yN CodL.yB 2 (some .byte))) (wks h (.initialized CodL.yN.cls :: CodL.site))
  have q5 : ∀ w ∈ Cmp5.tab :: words, w.before a s = true := fun w hw => (List.mem_cons.mp hw).elim (fun e => e ▸ h5) (h w)
  have h3 : Cmp3.tab.before a s = true := unparts (wk q5 (.code Cmp3.yN Cmp3.yB 6 (some (.array .byte)))) (wks q5 (.initialized Cmp3.yN.cls :: Cmp3.site))
  have q3 : ∀ w ∈ Cmp3.tab :: CodL.tab :: words, w.before a s = true := fun w hw => (List.mem_cons.mp hw).elim (fun e => e ▸ h3) fun hw => (List.mem_cons.mp hw).elim (fun e => e ▸ hc) (h w)
  have h4 : New4.tab.before a s = true := unparts (wk q3 (.code New4.yN New4.yB 6 none)) (wks q3 (.initialized New4.yN.cls :: New4.site))
  have q4 : ∀ w ∈ New4.tab :: words, w.before a s = true := fun w hw => (List.mem_cons.mp hw).elim (fun e => e ▸ h4) (h w)
  exact unparts (wk q4 (.code New1.yN New1.yB 2 none)) (wks q4 (.initialized New1.yN.cls :: New1.site))
/-- the words ride from the start Z to the walk's own state -/
theorem moved {Z s : State} {a0 args : Array Value} (hZ : Z.Warmed39 s.vm) (hw : ∀ d ∈ words, d.before a0 Z = true) : ∀ d ∈ words, d.before args s = true := fun d hd => by
  have q := hw d hd
  have t : ∀ d ∈ words, d = .arrayClass .byte ∨ (d.onTables && d.keepsFace) = true := by decide +kernel
  rcases t d hd with rfl | t
  · exact RoadKit.mvA hZ q
  · exact RoadKit.mv hZ q t
/-- WHAT COMES BACK, over the tables of the start Z: h the heap at the call, h' behind it -/
def Q (Z : State) (x : Addr) (A : Cell) (h : Heap) (v : Option Value) (h' : Heap) (L : List Loc) : Prop := v = none ∧ (∀ y ∈ L, y.base = x) ∧ RoadKit.Keep h h' [x] ∧ h'.size = h.size + 1 ∧ RoadKit.Exa Z h' x ST ∧ RoadKit.Fld Z h' x ST "value" "[B" (.ref h.size) ∧ RoadKit.Fld Z h' x ST "coder" "B" (.int 0) ∧
  (∃ V : Cell, RoadKit.Arr Z h' h.size V .byte ∧ V.vm = .none ∧ Z.vm.findClass "[B" = some V.cls ∧ V.slots.size = A.slots.size ∧ ∀ j, j < A.slots.size → V.slots[j]? = some (.int (lo8 (cv A j)))) ∧
  ∀ (O n d : String) (w : Value), RoadKit.Fld Z h x O n d w → RoadKit.slotOf Z O n d ≠ RoadKit.slotOf Z ST "value" "[B" → RoadKit.slotOf Z O n d ≠ RoadKit.slotOf Z ST "coder" "B" → RoadKit.Fld Z h' x O n d w
/-- **new String(chars) AT A CALL, IN THE ROAD'S FORM**: for specialBack behind newO: x the fresh String, b the char[] with the cell A -/
theorem back {p : Program} {l : Launch} {e : Env} {R : Room} {s : State} {args : Array Value} {below : List Frame} {len W : Nat} {Z : State} {a0 : Array Value} {h : Heap} (hZ : Z.Warmed39 s.vm) (hw : ∀ d ∈ words, d.before a0 Z = true) {kI : Nat} (wi : (Jvm.Cond.instantiable ST kI).before a0 Z = true)
    {x b : Addr} {A : Cell} {z : Int32} {v0 c0 : Value} (E : RoadKit.Exa Z h x ST) (V : RoadKit.Fld Z h x ST "value" "[B" v0) (C : RoadKit.Fld Z h x ST "coder" "B" c0) (K : RoadKit.Arr Z h b A .char) (hty : Typed .char A) (S : RoadKit.Sta Z h ST "COMPACT_STRINGS" "Z" (.int z)) (hz : ¬ z = 0)
    (l0 : 0 < A.slots.size) (l2 : A.slots.size ≤ 536870912) (hp : ∀ i, i < A.slots.size → ¬ 255 < cv A i) (hfr : 4 ≤ R.frames) (hlo : W + 65 ≤ R.locals) :
    Back l R p e below s args New1.yN len W (fun P a => a = #[.ref x, .ref b] ∧ P.U.heap = h ∧ P.cells + 1 ≤ R.cells ∧ P.slots + A.slots.size ≤ R.slots)
      (fun P _ v B => ∃ L, Q Z x A h v B.U.heap L ∧ B.locs = P.locs ++ L ∧ B.cells = P.cells + 1 ∧ B.slots = P.slots + A.slots.size) := by
  intro m meth c P g ig mk a X hg hsize hdg hW hn hp'
  obtain ⟨rfl, rfl, r1, r2⟩ := hp'
  have al : Z.vm.Alike P.U.vm := hZ.alike.trans X.warmed.alike
  obtain ⟨D, cfV, kV, iV, fV, hD, gV, stV, knV, obV, asV, slV⟩ := id V
  obtain ⟨D', cfC, kC, iC, fC, hD', gC, stC, -, -, asC, slC⟩ := id C
  cases hD.symm.trans hD'
  obtain ⟨D2, kD, e1, e2, e3, e4, e5⟩ := id E
  cases hD.symm.trans e1
  obtain ⟨c2, k2, i1, i2, i3, -⟩ := Cond.instantiable_spec wi
  cases e2.symm.trans i1
  cases e3.symm.trans i2
  obtain ⟨kU, u1, u2⟩ := al.2.2 _ _ e3
  have hB : Blank ST x D P.U := ⟨hD, ⟨knV, fun q hq => by rw [hq] at obV; cases obV⟩, by rw [al.findClass]; exact e2, kU, u1, by rw [u2]; exact i3, by rw [u2]; exact e5 i3⟩
  have F1 : Found ST "value" "[B" fV P.U := ⟨SBG.found_only al ⟨cfV, kV, iV, gV⟩, stV⟩
  have F2 : Found ST "coder" "B" fC P.U := ⟨SBG.found_only al ⟨cfC, kC, iC, gC⟩, stC⟩
  have hA : Ch b A P.U := ⟨⟨K.1, State.isArrayOf_alike al K.2.1, K.2.2, by omega⟩, hty⟩
  have hS : StaticIs P.U ST "COMPACT_STRINGS" "Z" (.int z) := by
    obtain ⟨cfS, iS, kS, fS, st, cS, t1, t2, t3, t4, t5, t6, t7⟩ := S
    exact StaticIs.there (s := { Z with heap := P.U.heap }) ⟨cfS, iS, kS, fS, st, cS, t1, t2, t3, t4, t5, (fun q => by rw [q] at t6; cases t6), t7⟩ al rfl
  obtain ⟨v, B, X', ⟨⟨hv, E', V', q1, q2, q3, q4, q5, q6, q7, q8, q9, q10, q11⟩, hl, hc, hs⟩, st⟩ := New1.pays x D fV fC b A z (tab_of (moved hZ hw)) hfr hlo m meth c P g ig mk _ X hg hsize hdg hW hn ⟨r1, r2, rfl, hB, F1, F2, hA, hS, hz, l0, l2, hp⟩
  have al' : Z.vm.Alike B.U.vm := hZ.alike.trans X'.warmed.alike
  have hsz : E'.slots.size = D.slots.size := by
    obtain ⟨-, -, -, kB, w1, w2, w3⟩ := q1
    obtain ⟨kB', y1, y2⟩ := al'.2.2 _ _ e3
    rw [q2.2.1] at w1
    cases w1.symm.trans y1
    rw [w3, e5 i3, y2]
  refine ⟨v, B, X', ⟨_, ⟨hv, ?_, ⟨by omega, fun y cy hy hn' => q10 y cy (by simpa using hn') hy, fun y cy hy => ?_⟩, q11, ⟨E', _, q1.1, by rw [q2.2.1]; exact e2, by rw [q2.2.1]; exact e3, by rw [q2.1]; exact obV, fun _ => by rw [hsz]; exact e5 i3⟩,
    ⟨E', cfV, kV, iV, fV, q1.1, gV, stV, by rw [q2.1]; exact knV, by rw [q2.1]; exact obV, by rw [q2.2.1]; exact asV, q3⟩, ⟨E', cfC, kC, iC, fC, q1.1, gC, stC, by rw [q2.1]; exact knV, by rw [q2.1]; exact obV, by rw [q2.2.1]; exact asC, q4⟩,
    ⟨V', ⟨q5.1, State.isArrayOf_alike al'.symm q5.2.1, q5.2.2.1⟩, q6, by rw [← al'.findClass]; exact q7, q8, fun j hj => by have := q9 j hj; rwa [Nat.zero_add] at this⟩, fun O n d w F n1 n2 => ?_⟩, hl, hc, hs⟩, st⟩
  · intro y hy
    simp only [List.mem_cons, List.not_mem_nil, or_false] at hy
    rcases hy with rfl | rfl <;> rfl
  · by_cases q : y = x
    · subst q
      cases hD.symm.trans hy
      exact ⟨E', q1.1, q2.2.1, q2.1, hsz⟩
    · exact ⟨cy, q10 y cy q hy, rfl, rfl, rfl⟩
  · obtain ⟨D3, cf, k, i, f, g1, g2, g3, g4, g5, g6, g7⟩ := F
    cases hD.symm.trans g1
    simp only [RoadKit.slotOf, g2, gV, gC, Option.map_some, Option.getD_some] at n1 n2
    exact ⟨E', cf, k, i, f, q1.1, g2, g3, by rw [q2.1]; exact g4, by rw [q2.1]; exact g5, by rw [q2.2.1]; exact g6, by rw [q2.2.2 f.slot (by simp [n1, n2])]; exact g7⟩
end StrChars.Road
namespace StrChars.Road
open Jvm Sem ClassFile Op Lib Jvm.Stand Jvm.Free Jvm.Free.XT
/-- WHAT COMES BACK, the byte[] as a list of values -/
def QA (Z : State) (x : Addr) (zn : Int32) (cs : List Int32) (h : Heap) (v : Option Value) (h' : Heap) (L : List Loc) : Prop := v = none ∧ (∀ y ∈ L, y.base = x) ∧ RoadKit.Keep h h' [x] ∧ h'.size = h.size + 1 ∧ RoadKit.Exa Z h' x ST ∧ RoadKit.Fld Z h' x ST "value" "[B" (.ref h.size) ∧ RoadKit.Fld Z h' x ST "coder" "B" (.int 0) ∧
  (∃ kb, Z.vm.findClass "[B" = some kb ∧ RoadKit.Arv Z h' h.size kb .byte zn (cs.map fun c => .int (lo8 c)) (.int 0)) ∧
  ∀ (O n d : String) (w : Value), RoadKit.Fld Z h x O n d w → RoadKit.slotOf Z O n d ≠ RoadKit.slotOf Z ST "value" "[B" → RoadKit.slotOf Z O n d ≠ RoadKit.slotOf Z ST "coder" "B" → RoadKit.Fld Z h' x O n d w
/-- **new String(chars) AT A CALL, THE ARRAYS AS LISTS**: the char[] at b holds cs, not empty, no char above 255 -/
theorem backArv {p : Program} {l : Launch} {e : Env} {R : Room} {s : State} {args : Array Value} {below : List Frame} {len W : Nat} {Z : State} {a0 : Array Value} {h : Heap} (hZ : Z.Warmed39 s.vm) (hw : ∀ d ∈ words, d.before a0 Z = true) {kI : Nat} (wi : (Jvm.Cond.instantiable ST kI).before a0 Z = true)
    {x b : Addr} {k : ClassId} {zn z : Int32} {cs : List Int32} {dv v0 c0 : Value} (E : RoadKit.Exa Z h x ST) (V : RoadKit.Fld Z h x ST "value" "[B" v0) (C : RoadKit.Fld Z h x ST "coder" "B" c0) (K : RoadKit.Arv Z h b k .char zn (cs.map Value.int) dv) (S : RoadKit.Sta Z h ST "COMPACT_STRINGS" "Z" (.int z)) (hz : ¬ z = 0)
    (hlen : zn.toNatClampNeg = cs.length) (h0 : 0 < cs.length) (hbig : cs.length ≤ 536870912) (hall : ∀ c ∈ cs, ¬ 255 < c) (hfr : 4 ≤ R.frames) (hlo : W + 65 ≤ R.locals) :
    Back l R p e below s args New1.yN len W (fun P a => a = #[.ref x, .ref b] ∧ P.U.heap = h ∧ P.cells + 1 ≤ R.cells ∧ P.slots + cs.length ≤ R.slots)
      (fun P _ v B => ∃ L, QA Z x zn cs h v B.U.heap L ∧ B.locs = P.locs ++ L ∧ B.cells = P.cells + 1 ∧ B.slots = P.slots + cs.length) := by
  obtain ⟨A, K1, K2, K3, K4, K5, K6⟩ := K
  have e : A.slots.size = cs.length := K3.trans hlen
  have hat : ∀ (i : Nat) (hi : i < cs.length), A.slots[i]? = some (.int cs[i]) := fun i hi => by rw [K5 i (by omega)]; simp [List.getD_eq_getElem?_getD, hi]
  have hcv : ∀ (i : Nat) (hi : i < cs.length), cv A i = cs[i] := fun i hi => by unfold cv; rw [hat i hi]
  have hty : Typed .char A := fun i v hv => by
    have hi : i < A.slots.size := (Array.getElem?_eq_some_iff.mp hv).1
    have q := K5 i hi
    rw [hv] at q
    rw [Option.some.inj q]
    exact K6 i hi
  refine Back.mono (back hZ hw wi E V C K1 hty S hz (by omega) (by omega) (fun i hi => by rw [hcv i (by omega)]; exact hall _ (List.getElem_mem _)) hfr hlo) (fun P a hp => ⟨hp.1, hp.2.1, hp.2.2.1, by rw [e]; exact hp.2.2.2⟩) (fun P a v B hp hq => ?_)
  obtain ⟨L, ⟨q1, q2, q3, q4, q5, q6, q7, ⟨V', v1, v2, v3, v4, v5⟩, q9⟩, hl, hc, hs⟩ := hq
  refine ⟨L, ⟨q1, q2, q3, q4, q5, q6, q7, ⟨V'.cls, v3, V', v1, rfl, by rw [v4, e, hlen], K4, fun i hi => ?_, fun i hi => ?_⟩, q9⟩, hl, hc, by rw [hs, e]⟩
  · have hi' : i < cs.length := by omega
    rw [v5 i (by omega), hcv i hi']; simp [List.getD_eq_getElem?_getD, hi']
  · have hi' : i < cs.length := by omega
    simp only [List.getD_eq_getElem?_getD, List.getElem?_map, List.getElem?_eq_getElem hi', Option.map_some, Option.getD_some]
    exact fits_lo8 _
end StrChars.Road
namespace StrChars.Road
open Jvm Sem ClassFile Op Lib Jvm.Stand Jvm.Free Jvm.Free.XT
/-- WHAT COMES BACK, in the writer's own shape -/
def QV (Z : State) (x : Addr) (N : Int32) (bs : List Int32) (h : Heap) (n0 : Nat) (v : Option Value) (h' : Heap) (L : List Loc) : Prop := v = none ∧ RoadKit.Fr n0 L ∧ RoadKit.Keep h h' [x] ∧ RoadKit.Exa Z h' x ST ∧ RoadKit.Fld Z h' x ST "coder" "B" (.int 0) ∧
  ∃ (t : Addr) (kb : ClassId), n0 ≤ t ∧ h.size ≤ t ∧ ¬ t = x ∧ RoadKit.Fld Z h' x ST "value" "[B" (.ref t) ∧ RoadKit.Arv Z h' t kb .byte N (bs.map Value.int) (.int 0)
/-- **new String(chars) AT A CALL, FOR THE WRITER**: a char[] of n known ints, each 0 to 255 -/
theorem backV {p : Program} {l : Launch} {e : Env} {R : Room} {s : State} {args : Array Value} {below : List Frame} {len W : Nat} {Z : State} {a0 : Array Value} {h : Heap} (hZ : Z.Warmed39 s.vm) (hw : ∀ d ∈ words, d.before a0 Z = true) {kI : Nat} (wi : (Jvm.Cond.instantiable ST kI).before a0 Z = true)
    {x b : Addr} {kC : ClassId} {cs bs : List Int32} {d v0 c0 : Value} {z N : Int32} {n n0 : Nat} (hx0 : n0 ≤ x) (hh0 : n0 ≤ h.size) (E : RoadKit.Exa Z h x ST) (V : RoadKit.Fld Z h x ST "value" "[B" v0) (C : RoadKit.Fld Z h x ST "coder" "B" c0) (K : RoadKit.Arv Z h b kC .char N (cs.map Value.int) d) (S : RoadKit.Sta Z h ST "COMPACT_STRINGS" "Z" (.int z)) (hz : ¬ z = 0)
    (hn : cs.length = n) (hN : N = Int32.ofNat n) (l0 : 0 < n) (l2 : n ≤ 4000) (hp : ∀ c ∈ cs, ¬ c < 0 ∧ ¬ (255 : Int32) < c) (hb : bs = cs.map (fun c => c.toInt8.toInt32)) (hfr : 4 ≤ R.frames) (hlo : W + 65 ≤ R.locals) :
    Back l R p e below s args (⟨"java/lang/String", "<init>", "([C)V"⟩ : MethodName) len W (fun P a => a = #[.ref x, .ref b] ∧ P.U.heap = h ∧ P.cells + 1 ≤ R.cells ∧ P.slots + n ≤ R.slots)
      (fun P _ v B => ∃ L, QV Z x N bs h n0 v B.U.heap L ∧ B.locs = P.locs ++ L ∧ B.cells = P.cells + 1 ∧ B.slots = P.slots + n) := by
  subst hn hN hb
  refine Back.mono (backArv hZ hw wi E V C K S hz (n32 (by omega)) l0 (by omega) (fun c hc => (hp c hc).2) hfr hlo) (fun P a hp => hp) (fun P a v B hp hq => ?_)
  obtain ⟨L, ⟨q1, q2, q3, q4, q5, q6, q7, ⟨kb, v1, v2⟩, q9⟩, hl, hc, hs⟩ := hq
  exact ⟨L, ⟨q1, fun y hy => by rw [q2 y hy]; exact hx0, q3, q5, q7, h.size, kb, hh0, Nat.le_refl _, Nat.ne_of_gt E.lt, q6, by rw [List.map_map]; exact v2⟩, hl, hc, hs⟩
end StrChars.Road
namespace StrChars
open Jvm Sem ClassFile Op Lib Jvm.Stand Jvm.Free.XT Jvm.Free.ALB Jvm.Free.JM Jvm.Free
open Jvm.Lib.Cold (StaticIs)
def hi8 (x : Int32) : Int32 := lo8 (x >>> ((8 : Int32) &&& 31))
/-- what StringUTF16.getChar makes of two bytes -/
def pairCh (u v : Int32) : Int32 := (((u &&& 255) <<< ((0 : Int32) &&& 31)) ||| ((v &&& 255) <<< ((8 : Int32) &&& 31))).toUInt32.toUInt16.toUInt32.toInt32
theorem shr0 (c : Int32) : c >>> ((0 : Int32) &&& 31) = c := by
  have e : ((0 : Int32) &&& 31) = 0 := by decide
  rw [e]
  apply Int32.toBitVec_inj.mp
  rw [Int32.toBitVec_shiftRight]
  have e1 : ((0 : Int32).toBitVec.smod 32) = 0#32 := by decide
  rw [e1, BitVec.sshiftRight_eq']
  exact BitVec.sshiftRight_zero
theorem lo8_and (x : Int32) : (lo8 x &&& 255).toBitVec.toNat = x.toBitVec.toNat % 256 := by
  have h : (lo8 x).toBitVec = (x.toBitVec.signExtend 8).signExtend 32 := by rw [lo8, Int8.toBitVec_toInt32, Int32.toBitVec_toInt8]
  rw [Int32.toBitVec_and, BitVec.toNat_and, h]
  have e : ((x.toBitVec.signExtend 8).signExtend 32).toNat % 256 = x.toBitVec.toNat % 256 := by
    rw [BitVec.toNat_signExtend]
    have hlt := x.toBitVec.isLt
    simp only [BitVec.toNat_setWidth, BitVec.toNat_signExtend]
    split <;> split <;> omega
  rw [← e]
  exact Nat.and_two_pow_sub_one_eq_mod _ 8
theorem pair_says {c : Int32} (h0 : ¬ c < 0) (h1 : ¬ 65535 < c) : pairCh (lo8 c) (hi8 c) = c := by
  rw [Int32.lt_iff_toInt_lt] at h0 h1
  have e0 : (0 : Int32).toInt = 0 := rfl
  have e1 : (65535 : Int32).toInt = 65535 := rfl
  have hc : c.toInt = c.toBitVec.toNat := by
    have := c.toBitVec.isLt
    have e : c.toInt = c.toBitVec.toInt := rfl
    rw [e] at h0 h1
    rw [e]
    rw [BitVec.toInt_eq_toNat_cond] at h0 h1 ⊢
    split at h0 <;> split <;> omega
  have hn : c.toBitVec.toNat < 65536 := by omega
  have a1 := lo8_and c
  have a2 : (hi8 c &&& 255).toBitVec.toNat = c.toBitVec.toNat / 256 := by
    rw [hi8, lo8_and]
    have e : ((8 : Int32) &&& 31) = 8 := by decide
    rw [e, Int32.toBitVec_shiftRight]
    have e2 : ((8 : Int32).toBitVec.smod 32) = 8#32 := by decide
    rw [e2, BitVec.sshiftRight_eq', BitVec.toNat_sshiftRight_of_msb_false (by rw [BitVec.msb_eq_false_iff_two_mul_lt]; omega)]
    show c.toBitVec.toNat >>> 8 % 256 = _
    rw [Nat.shiftRight_eq_div_pow]
    omega
  unfold pairCh
  apply Int32.toBitVec_inj.mp
  apply BitVec.eq_of_toNat_eq
  have f0 : ((0 : Int32) &&& 31) = 0 := by decide
  have f8 : ((8 : Int32) &&& 31) = 8 := by decide
  rw [f0, f8]
  have g : (((lo8 c &&& 255) <<< (0 : Int32)) ||| ((hi8 c &&& 255) <<< (8 : Int32))).toBitVec.toNat = c.toBitVec.toNat := by
    rw [Int32.toBitVec_or, Int32.toBitVec_shiftLeft, Int32.toBitVec_shiftLeft]
    have s0 : ((0 : Int32).toBitVec.smod 32) = 0#32 := by decide
    have s8 : ((8 : Int32).toBitVec.smod 32) = 8#32 := by decide
    rw [s0, s8, BitVec.toNat_or]
    simp only [BitVec.shiftLeft_eq', BitVec.toNat_shiftLeft, a1, a2]
    show (c.toBitVec.toNat % 256) <<< 0 % 2 ^ 32 ||| (c.toBitVec.toNat / 256) <<< 8 % 2 ^ 32 = _
    rw [Nat.shiftLeft_zero, Nat.mod_eq_of_lt (show c.toBitVec.toNat % 256 < 2 ^ 32 by omega), Nat.mod_eq_of_lt (show (c.toBitVec.toNat / 256) <<< 8 < 2 ^ 32 by rw [Nat.shiftLeft_eq]; omega), Nat.or_comm, ← Nat.shiftLeft_add_eq_or_of_lt (by omega), Nat.shiftLeft_eq]
    omega
  show BitVec.toNat (((((lo8 c &&& 255) <<< (0 : Int32)) ||| ((hi8 c &&& 255) <<< (8 : Int32))).toBitVec.setWidth 16).setWidth 32) = _
  rw [BitVec.toNat_setWidth, BitVec.toNat_setWidth, g]
  omega
end StrChars
namespace StrChars
open Jvm Sem ClassFile Op Lib Jvm.Stand Jvm.Free.XT Jvm.Free.ALB Jvm.Free.JM Jvm.Free
open Jvm.Lib.Cold (StaticIs)
theorem shr1 {n : Nat} (h : 2 * n < 2 ^ 31) : Int32.ofNat (2 * n) >>> ((1 : Int32) &&& 31) = Int32.ofNat n := by
  have e : ((1 : Int32) &&& 31) = 1 := by decide
  rw [e]
  apply Int32.toBitVec_inj.mp
  rw [Int32.toBitVec_shiftRight]
  have e1 : ((1 : Int32).toBitVec.smod 32) = 1#32 := by decide
  have hm : (BitVec.ofNat 32 (2 * n)).toNat = 2 * n := by rw [BitVec.toNat_ofNat, Nat.mod_eq_of_lt (by omega)]
  rw [e1, BitVec.sshiftRight_eq']
  apply BitVec.eq_of_toNat_eq
  show ((BitVec.ofNat 32 (2 * n)).sshiftRight 1).toNat = (BitVec.ofNat 32 n).toNat
  rw [BitVec.toNat_sshiftRight_of_msb_false (by rw [BitVec.msb_eq_false_iff_two_mul_lt, hm]; omega), hm, BitVec.toNat_ofNat, Nat.shiftRight_eq_div_pow]
  omega
theorem narrow_ch {c : Int32} (h0 : ¬ c < 0) (h1 : ¬ 65535 < c) : narrow .char (.int c) = .int c := by
  have q : narrow .char (.int (pairCh (lo8 c) (hi8 c))) = .int (pairCh (lo8 c) (hi8 c)) := narrow_c _
  rwa [pair_says h0 h1] at q
/-- the array's cell V codes the n chars f 0 .. f (n - 1) by the coder cd, as the JDK does: coder 1 just where some char is above 255 -/
def Cod (cd : Int32) (n : Nat) (f : Nat → Int32) (V : Cell) : Prop := (cd = 0 ∧ V.slots.size = n ∧ ∀ j, j < n → V.slots[j]? = some (.int (lo8 (f j))) ∧ ¬ 255 < f j) ∨ (cd = 1 ∧ V.slots.size = 2 * n ∧ (∀ j, j < n → V.slots[2 * j]? = some (.int (lo8 (f j))) ∧ V.slots[2 * j + 1]? = some (.int (hi8 (f j)))) ∧ ∃ j, j < n ∧ 255 < f j)
theorem Cod.cd {cd : Int32} {n : Nat} {f : Nat → Int32} {V : Cell} (h : Cod cd n f V) : cd = 0 ∨ cd = 1 := h.imp (fun q => q.1) fun q => q.1
theorem Cod.len {cd : Int32} {n : Nat} {f : Nat → Int32} {V : Cell} (h : Cod cd n f V) (hs : V.slots.size < 2 ^ 31) : Int32.ofNat V.slots.size >>> (cd &&& 31) = Int32.ofNat n := by
  rcases h with ⟨rfl, h, -⟩ | ⟨rfl, h, -⟩
  · rw [shr0, h]
  · rw [h, shr1 (by omega)]
/-- **x is a String of the n chars f 0 .. f (n - 1)**, Latin-1 or UTF-16; its array at t has the cell V -/
def Txt (x t : Addr) (V : Cell) (cd : Int32) (n : Nat) (f : Nat → Int32) (U : State) : Prop := Exact "java/lang/String" x U ∧ Has x "java/lang/String" "value" "[B" (.ref t) U ∧ Has x "java/lang/String" "coder" "B" (.int cd) U ∧ XT.Arr .byte t V U ∧ Cod cd n f V ∧ ∀ j, j < n → ¬ f j < 0 ∧ ¬ 65535 < f j
theorem Txt.mv {x t : Addr} {V : Cell} {cd : Int32} {n : Nat} {f : Nat → Int32} {U U' : State} (h : Txt x t V cd n f U) (hal : U.vm.Alike U'.vm) (hh : U'.heap = U.heap) : Txt x t V cd n f U' := ⟨h.1.mv hal hh, h.2.1.mv hal hh, h.2.2.1.mv hal hh, h.2.2.2.1.mv hal hh, h.2.2.2.2⟩
namespace Cdr
def yN : MethodName := ⟨"java/lang/String", "coder", "()B"⟩
abbrev yB : ByteArray := jdk_42_method_152_code
theorem d0 : decode yB 0 = .ok (.getstatic 38, 3) := by decide +kernel
theorem d3 : decode yB 3 = .ok (.ifCond (.eq) 10, 3) := by decide +kernel
theorem d6 : decode yB 6 = .ok (.aload_n 0, 1) := by decide +kernel
theorem d7 : decode yB 7 = .ok (.getfield 15, 3) := by decide +kernel
theorem d10 : decode yB 10 = .ok (.goto 4, 3) := by decide +kernel
theorem d14 : decode yB 14 = .ok (.ireturn, 1) := by decide +kernel
def site : List Cond := [.fieldLink "java/lang/String" 38 "java/lang/String" "COMPACT_STRINGS" "Z", .fieldLink "java/lang/String" 15 "java/lang/String" "coder" "B"]
def tab : Cond := tabOf yN yB 1 (some .byte) site
def P (x : Addr) (cd z : Int32) (args : Array Value) (s : State) : Prop := args = #[.ref x] ∧ Has x "java/lang/String" "coder" "B" (.int cd) s ∧ (cd = 0 ∨ cd = 1) ∧ StaticIs s "java/lang/String" "COMPACT_STRINGS" "Z" (.int z) ∧ ¬ z = 0
def E (cd : Int32) (r : Option Value) (s u : State) : Prop := XT.PureE (some (.int cd)) r s u
theorem law (l : Launch) (x : Addr) (cd z : Int32) : Law l yN 1 0 0 0 yB 1 (some .byte) site (P x cd z) (E cd) [] 0 0 := by
  refine Law.of_walk (plainFor_of_name (by decide +kernel)) (by decide +kernel) (by decide +kernel) (by decide) (fun _ _ h => by rw [h.1]; rfl) (fun _ U U' hal hh h => ⟨h.1, h.2.1.mv hal hh, h.2.2.1, h.2.2.2.1.there hal hh, h.2.2.2.2⟩) (fun r U U' V V' h1 hal h2 h => XT.PureE.mv r U U' V V' h1 hal h2 h) ?_
  intro p e s m args below meth c s₁ X0 hexec hbytes hml hret hlk hnm hown hh0 W hP
  obtain ⟨rfl, hx, hc, s1, hz⟩ := hP
  have c1 : Steps p.tables e below (s₁.setTop (entryFrame m #[.ref x] 1)) (s₁.setTop (mkF m 0 #[.val (.ref x)] [])) := entry rfl
  obtain ⟨T2, X2, q2, st2⟩ := X0.sget hexec hown (wk W (.fieldLink "java/lang/String" 38 "java/lang/String" "COMPACT_STRINGS" "Z")) s1 (fun _ _ h => by rw [hh0]; exact h) (g := (mkF m 0 #[.val (.ref x)] [])) rfl (hb hbytes d0)
  have hh2 := q2.trans hh0
  have c3 : Steps p.tables e below (s₁.setTop (entryFrame m #[.ref x] 1)) (T2.setTop (mkF m 7 #[.val (.ref x)] [.ref x])) := (c1.trans (st2 _ (Steps.refl _))).trans (by
    refine XS.ifNo X2.here hexec rfl (hb hbytes d3) rfl (i0_eq_f hz) ?_
    refine XS.aloadN X2.here hexec rfl (hb hbytes d6) rfl rfl ?_
    exact Steps.refl _)
  obtain ⟨T4, X4, q4, st4⟩ := X2.hget hexec hown (wk W (.fieldLink "java/lang/String" 15 "java/lang/String" "coder" "B")) (hx.mv X2.warmed.alike hh2) (g := (mkF m 7 #[.val (.ref x)] [.ref x])) rfl (rest := []) rfl (hb hbytes d7)
  have c5 : Steps p.tables e below (s₁.setTop (entryFrame m #[.ref x] 1)) (T4.setTop (mkF m 14 #[.val (.ref x)] [.int cd])) := (c3.trans (st4 _ (Steps.refl _))).trans (by
    refine XS.goto X4.here hexec rfl (pc0 := 10) rfl (hb hbytes d10) (by decide) rfl ?_
    exact Steps.refl _)
  exact ⟨T4, some (.int cd), _, _, _, X4, rfl, rfl, rfl, (fun h => by cases h), ⟨rfl, q4.trans hh2⟩, fun fs hl => c5.trans (X4.ireturnOut hexec hret (by rcases hc with rfl | rfl <;> rfl) (Or.inr (Or.inr (Or.inl rfl))) (hb hbytes d14) hl)⟩
end Cdr
namespace Len
def yN : MethodName := ⟨"java/lang/String", "length", "()I"⟩
abbrev yB : ByteArray := jdk_42_method_54_code
theorem d0 : decode yB 0 = .ok (.aload_n 0, 1) := by decide +kernel
theorem d1 : decode yB 1 = .ok (.getfield 9, 3) := by decide +kernel
theorem d4 : decode yB 4 = .ok (.arraylength, 1) := by decide +kernel
theorem d5 : decode yB 5 = .ok (.aload_n 0, 1) := by decide +kernel
theorem d6 : decode yB 6 = .ok (.invokevirtual 335, 3) := by decide +kernel
theorem d9 : decode yB 9 = .ok (.ishr, 1) := by decide +kernel
theorem d10 : decode yB 10 = .ok (.ireturn, 1) := by decide +kernel
def site : List Cond := [.fieldLink "java/lang/String" 9 "java/lang/String" "value" "[B", Cdr.tab] ++ virtW "java/lang/String" 335 "java/lang/String" Cdr.yN Cdr.yN
def tab : Cond := tabOf yN yB 1 (some .int) site
def P (x t : Addr) (V : Cell) (cd : Int32) (n : Nat) (f : Nat → Int32) (z : Int32) (args : Array Value) (s : State) : Prop := args = #[.ref x] ∧ Txt x t V cd n f s ∧ StaticIs s "java/lang/String" "COMPACT_STRINGS" "Z" (.int z) ∧ ¬ z = 0
def E (n : Nat) (r : Option Value) (s u : State) : Prop := XT.PureE (some (.int (Int32.ofNat n))) r s u
/-- length() of a String of n chars, in either coding -/
theorem law (l : Launch) (x t : Addr) (V : Cell) (cd : Int32) (n : Nat) (f : Nat → Int32) (z : Int32) : Law l yN 1 0 1 13 yB 1 (some .int) site (P x t V cd n f z) (E n) [] 0 0 := by
  refine Law.of_walk (plainFor_of_name (by decide +kernel)) (by decide +kernel) (by decide +kernel) (by decide) (fun _ _ h => by rw [h.1]; rfl) (fun _ U U' hal hh h => ⟨h.1, h.2.1.mv hal hh, h.2.2.1.there hal hh, h.2.2.2⟩) (fun r U U' V V' h1 hal h2 h => XT.PureE.mv r U U' V V' h1 hal h2 h) ?_
  intro p e s m args below meth c s₁ X0 hexec hbytes hml hret hlk hnm hown hh0 W hP
  obtain ⟨rfl, hx, s1, hz⟩ := hP
  have v31 := hx.2.2.2.1.2.2.2
  have c1 : Steps p.tables e below (s₁.setTop (entryFrame m #[.ref x] 1)) (s₁.setTop (mkF m 1 #[.val (.ref x)] [.ref x])) := Steps.trans (entry rfl) (by
    show Steps p.tables e below (s₁.setTop (mkF m 0 #[.val (.ref x)] [])) _
    refine XS.aloadN X0.here hexec rfl (hb hbytes d0) rfl rfl ?_
    exact Steps.refl _)
  obtain ⟨T2, X2, q2, st2⟩ := X0.hget hexec hown (wk W (.fieldLink "java/lang/String" 9 "java/lang/String" "value" "[B")) (hx.mv X0.warmed.alike hh0).2.1 (g := (mkF m 1 #[.val (.ref x)] [.ref x])) rfl (rest := []) rfl (hb hbytes d1)
  have hh2 := q2.trans hh0
  have hx2 := hx.mv X2.warmed.alike hh2
  have c3 : Steps p.tables e below (s₁.setTop (entryFrame m #[.ref x] 1)) (T2.setTop (mkF m 6 #[.val (.ref x)] [.ref x, .int (Int32.ofNat V.slots.size)])) := (c1.trans (st2 _ (Steps.refl _))).trans (by
    refine X2.alen hexec hx2.2.2.2.1 rfl rfl (hb hbytes d4) ?_
    refine XS.aloadN X2.here hexec rfl (hb hbytes d5) rfl rfl ?_
    exact Steps.refl _)
  obtain ⟨v4, T4, X4, E4, g4⟩ := X2.callV hexec (Cdr.law l x cd z) hown (wks W (virtW "java/lang/String" 335 "java/lang/String" Cdr.yN Cdr.yN)) rfl (by decide) (wk W Cdr.tab) (W := 1) (Nat.le_of_ble_eq_true rfl) (Nat.le_of_ble_eq_true rfl) (Nat.le_refl _) (Nat.le_refl _) (hx2.1.fc X2.warmed.alike) hx2.1.is (g := (mkF m 6 #[.val (.ref x)] [.ref x, .int (Int32.ofNat V.slots.size)])) rfl (by rw [hml]; rfl) c3 (argsL := []) (rest := [.int (Int32.ofNat V.slots.size)]) rfl rfl (by show 2 * 0 + (1 + 0) ≤ _; decide) (hb hbytes d6) (⟨rfl, hx2.2.2.1, hx.2.2.2.2.1.cd, s1.there X2.warmed.alike hh2, hz⟩)
  obtain ⟨rfl, q4⟩ := E4
  have c5 : Steps p.tables e below (s₁.setTop (entryFrame m #[.ref x] 1)) (T4.setTop (mkF m 10 #[.val (.ref x)] [.int (Int32.ofNat V.slots.size >>> (cd &&& 31))])) := Steps.trans g4 (by
    refine ishr X4.here hexec rfl (hb hbytes d9) rfl ?_
    exact Steps.refl _)
  rw [hx.2.2.2.2.1.len v31] at c5
  exact ⟨T4, some (.int (Int32.ofNat n)), _, _, _, X4, rfl, rfl, rfl, (fun h => by cases h), ⟨rfl, q4.trans hh2⟩, fun fs hl => c5.trans (X4.ireturnOut hexec hret rfl (Or.inl rfl) (hb hbytes d10) hl)⟩
theorem pays {l : Launch} {R : Room} {p : Program} {e : Env} {below : List Frame} {s : State} {sargs : Array Value} {len W : Nat} (x t : Addr) (V : Cell) (cd : Int32) (n : Nat) (f : Nat → Int32) (z : Int32) (htab : tab.before sargs s = true) (hfr : 2 ≤ R.frames) (hlo : W + 25 ≤ R.locals) :
    Back l R p e below s sargs yN len W (fun A₁ a₁ => A₁.cells + 0 ≤ R.cells ∧ A₁.slots + 0 ≤ R.slots ∧ P x t V cd n f z a₁ A₁.U) (fun A₁ _ v₁ B₁ => E n v₁ A₁.U B₁.U ∧ B₁.locs = A₁.locs ++ [] ∧ B₁.cells = A₁.cells + 0 ∧ B₁.slots = A₁.slots + 0) :=
  (law l x t V cd n f z).pays htab hfr (by omega)
end Len
end StrChars
namespace StrChars.Road
open Jvm Sem ClassFile Op Lib Jvm.Stand Jvm.Free Jvm.Free.XT
open Jvm.Lib.Cold (StaticIs)
theorem consq {a : Array Value} {s : State} {c : Jvm.Cond} {L : List Jvm.Cond} (h0 : c.before a s = true) (h : ∀ w ∈ L, w.before a s = true) : ∀ w ∈ c :: L, w.before a s = true := fun w hw => (List.mem_cons.mp hw).elim (fun e => e ▸ h0) (h w)
/-- the words of String.length(), either coding -/
abbrev wordsLen : List Jvm.Cond := [.code Len.yN Len.yB 1 (some .int), .initialized ST, .fieldLink ST 9 ST "value" "[B", .fieldLink ST 38 ST "COMPACT_STRINGS" "Z", .fieldLink ST 15 ST "coder" "B", .code Cdr.yN Cdr.yB 1 (some .byte), .methodLink ST 335 Cdr.yN, .declares Cdr.yN, .selects ST Cdr.yN Cdr.yN, .instanceMethod Cdr.yN]
theorem tabLen_of {a : Array Value} {s : State} (h : ∀ w ∈ wordsLen, w.before a s = true) : Len.tab.before a s = true := by
  have hc : Cdr.tab.before a s = true := unparts (wk h (.code Cdr.yN Cdr.yB 1 (some .byte))) (wks h (.initialized Cdr.yN.cls :: Cdr.site))
  have q := consq hc h
  exact unparts (wk q (.code Len.yN Len.yB 1 (some .int))) (wks q (.initialized Len.yN.cls :: Len.site))
theorem movedLen {Z s : State} {a0 args : Array Value} (hZ : Z.Warmed39 s.vm) (hw : ∀ d ∈ wordsLen, d.before a0 Z = true) : ∀ d ∈ wordsLen, d.before args s = true := fun d hd => by
  have q := hw d hd
  have t : ∀ d ∈ wordsLen, d = .arrayClass .byte ∨ (d.onTables && d.keepsFace) = true := by decide +kernel
  rcases t d hd with rfl | t
  · exact RoadKit.mvA hZ q
  · exact RoadKit.mv hZ q t
/-- the bytes of the chars cs, low before high -/
def wideBytes : List Int32 → List Value
  | [] => []
  | c :: cs => .int (lo8 c) :: .int (hi8 c) :: wideBytes cs
theorem wide_lo (d : Value) : ∀ (cs : List Int32) (j : Nat), j < cs.length → (wideBytes cs).getD (2 * j) d = .int (lo8 (cs.getD j 0))
  | [], j, h => absurd h (Nat.not_lt_zero j)
  | c :: cs, 0, _ => rfl
  | c :: cs, j + 1, h => by
    have q := wide_lo d cs j (by simpa using h)
    rw [show 2 * (j + 1) = 2 * j + 1 + 1 from by omega]
    simpa [wideBytes] using q
theorem wide_hi (d : Value) : ∀ (cs : List Int32) (j : Nat), j < cs.length → (wideBytes cs).getD (2 * j + 1) d = .int (hi8 (cs.getD j 0))
  | [], j, h => absurd h (Nat.not_lt_zero j)
  | c :: cs, 0, _ => rfl
  | c :: cs, j + 1, h => by
    have q := wide_hi d cs j (by simpa using h)
    rw [show 2 * (j + 1) + 1 = 2 * j + 1 + 1 + 1 from by omega]
    simpa [wideBytes] using q
theorem low_at (d : Value) (cs : List Int32) (j : Nat) (h : j < cs.length) : (cs.map fun c => Value.int (lo8 c)).getD j d = .int (lo8 (cs.getD j 0)) := by
  simp [List.getD_eq_getElem?_getD, h]
/-- an array of N2 bytes vs codes the chars cs by the coder cd -/
def CodA (cs : List Int32) (cd N2 : Int32) (vs : List Value) : Prop := (cd = 0 ∧ N2 = Int32.ofNat cs.length ∧ vs = (cs.map fun c => Value.int (lo8 c)) ∧ ∀ c ∈ cs, ¬ 255 < c) ∨ (cd = 1 ∧ N2 = Int32.ofNat (2 * cs.length) ∧ vs = wideBytes cs ∧ ∃ c ∈ cs, 255 < c)
theorem CodA.cod {cs : List Int32} {cd N2 : Int32} {vs : List Value} {V : Cell} (h : CodA cs cd N2 vs) (hn : 2 * cs.length < 2 ^ 31) (hs : V.slots.size = N2.toNatClampNeg) (hv : RoadKit.Has V vs (.int 0)) : Cod cd cs.length (fun j => cs.getD j 0) V := by
  rcases h with ⟨rfl, rfl, rfl, h⟩ | ⟨rfl, rfl, rfl, c, hc, hw⟩
  · rw [n32 (by omega)] at hs
    exact Or.inl ⟨rfl, hs, fun j hj => ⟨by rw [hv j (by omega), low_at _ _ _ hj], by
      have e : cs.getD j 0 = cs[j] := by simp [List.getD_eq_getElem?_getD, hj]
      show ¬ 255 < cs.getD j 0
      rw [e]; exact h _ (List.getElem_mem _)⟩⟩
  · rw [n32 (by omega)] at hs
    obtain ⟨j, hj, rfl⟩ := List.getElem_of_mem hc
    exact Or.inr ⟨rfl, hs, fun j hj => ⟨by rw [hv _ (by omega), wide_lo _ _ _ hj], by rw [hv _ (by omega), wide_hi _ _ _ hj]⟩, j, hj, by
      have e : cs.getD j 0 = cs[j] := by simp [List.getD_eq_getElem?_getD, hj]
      show 255 < cs.getD j 0
      rw [e]; exact hw⟩
/-- an object of exactly java/lang/String, its two fields found: as the laws ask it -/
theorem strObj {Z U : State} {a0 : Array Value} {kI : Nat} (wi : (Jvm.Cond.instantiable ST kI).before a0 Z = true) (al : Z.vm.Alike U.vm) {x : Addr} {v0 c0 : Value} (E : RoadKit.Exa Z U.heap x ST) (V : RoadKit.Fld Z U.heap x ST "value" "[B" v0) (C : RoadKit.Fld Z U.heap x ST "coder" "B" c0) :
    ∃ (D : Cell) (fV fC : Field), Blank ST x D U ∧ Found ST "value" "[B" fV U ∧ Found ST "coder" "B" fC U ∧ D.slots[fV.slot]? = some v0 ∧ D.slots[fC.slot]? = some c0 ∧ RoadKit.slotOf Z ST "value" "[B" = fV.slot ∧ RoadKit.slotOf Z ST "coder" "B" = fC.slot := by
  obtain ⟨D, cfV, kV, iV, fV, hD, gV, stV, knV, obV, asV, slV⟩ := V
  obtain ⟨D', cfC, kC, iC, fC, hD', gC, stC, -, -, asC, slC⟩ := C
  cases hD.symm.trans hD'
  obtain ⟨D2, kD, e1, e2, e3, e4, e5⟩ := E
  cases hD.symm.trans e1
  obtain ⟨c2, k2, i1, i2, i3, -⟩ := Cond.instantiable_spec wi
  cases e2.symm.trans i1
  cases e3.symm.trans i2
  obtain ⟨kU, u1, u2⟩ := al.2.2 _ _ e3
  exact ⟨D, fV, fC, ⟨hD, ⟨knV, fun q hq => by rw [hq] at obV; cases obV⟩, by rw [al.findClass]; exact e2, kU, u1, by rw [u2]; exact i3, by rw [u2]; exact e5 i3⟩, ⟨SBG.found_only al ⟨cfV, kV, iV, gV⟩, stV⟩, ⟨SBG.found_only al ⟨cfC, kC, iC, gC⟩, stC⟩, slV, slC, by simp [RoadKit.slotOf, gV], by simp [RoadKit.slotOf, gC]⟩
theorem sta_is {Z U : State} (al : Z.vm.Alike U.vm) {C n d : String} {v : Value} (S : RoadKit.Sta Z U.heap C n d v) : StaticIs U C n d v := by
  obtain ⟨cfS, iS, kS, fS, st, cS, t1, t2, t3, t4, t5, t6, t7⟩ := S
  exact StaticIs.there (s := { Z with heap := U.heap }) ⟨cfS, iS, kS, fS, st, cS, t1, t2, t3, t4, t5, (fun q => by rw [q] at t6; cases t6), t7⟩ al rfl
/-- **length() OF SUCH A STRING** -/
theorem lenW {p : Program} {l : Launch} {e : Env} {R : Room} {s : State} {args : Array Value} {below : List Frame} {len W : Nat} {Z : State} {a0 : Array Value} {h : Heap} (hZ : Z.Warmed39 s.vm) (hw : ∀ d ∈ wordsLen, d.before a0 Z = true) {kI : Nat} (wi : (Jvm.Cond.instantiable ST kI).before a0 Z = true)
    {x t : Addr} {kb : ClassId} {cs : List Int32} {cd N2 z : Int32} {vs : List Value} (E : RoadKit.Exa Z h x ST) (V : RoadKit.Fld Z h x ST "value" "[B" (.ref t)) (C : RoadKit.Fld Z h x ST "coder" "B" (.int cd)) (K : RoadKit.Arv Z h t kb .byte N2 vs (.int 0)) (hc : CodA cs cd N2 vs) (hb : ∀ c ∈ cs, ¬ c < 0 ∧ ¬ (65535 : Int32) < c)
    (S : RoadKit.Sta Z h ST "COMPACT_STRINGS" "Z" (.int z)) (hz : ¬ z = 0) (l2 : cs.length ≤ 4000) (hfr : 2 ≤ R.frames) (hlo : W + 25 ≤ R.locals) :
    Back l R p e below s args (⟨"java/lang/String", "length", "()I"⟩ : MethodName) len W (fun P a => a = #[.ref x] ∧ P.U.heap = h ∧ P.cells + 0 ≤ R.cells ∧ P.slots + 0 ≤ R.slots)
      (fun P _ v B => ∃ L, (v = some (.int (Int32.ofNat cs.length)) ∧ L = [] ∧ B.U.heap = h) ∧ B.locs = P.locs ++ L ∧ B.cells = P.cells + 0 ∧ B.slots = P.slots + 0) := by
  obtain ⟨A, K1, K2, K3, K4, K5, K6⟩ := K
  have hcod := hc.cod (by omega) K3 K5
  intro m meth c P g ig mk a X hg hsize hdg hW hn hp'
  obtain ⟨rfl, rfl, r1, r2⟩ := hp'
  have al : Z.vm.Alike P.U.vm := hZ.alike.trans X.warmed.alike
  obtain ⟨D, fV, fC, hB, F1, F2, g1, g2, -, -⟩ := strObj wi al E V C
  have hx : Txt x t A cd cs.length (fun j => cs.getD j 0) P.U := ⟨⟨_, hB.2.2.1, D, hB.1, rfl, by cases q : D.vm <;> first | rfl | exact absurd q (hB.2.1.2 _)⟩, Has.of hB F1 g1, Has.of hB F2 g2, ⟨K1.1, State.isArrayOf_alike al K1.2.1, K1.2.2, by rcases hcod with ⟨-, q, -⟩ | ⟨-, q, -⟩ <;> omega⟩, hcod, fun j hj => by
    have e : cs.getD j 0 = cs[j] := by simp [List.getD_eq_getElem?_getD, hj]
    show ¬ cs.getD j 0 < 0 ∧ ¬ 65535 < cs.getD j 0
    rw [e]; exact hb _ (List.getElem_mem _)⟩
  obtain ⟨v, B, X', ⟨⟨hv, hh⟩, hl, hk, hs⟩, st⟩ := Len.pays x t A cd cs.length (fun j => cs.getD j 0) z (tabLen_of (movedLen hZ hw)) hfr hlo m meth c P g ig mk _ X hg hsize hdg hW hn ⟨r1, r2, rfl, hx, sta_is al S, hz⟩
  exact ⟨v, B, X', ⟨[], ⟨hv, rfl, hh⟩, hl, hk, hs⟩, st⟩
end StrChars.Road
namespace StrChars
open Jvm Sem ClassFile Op Lib Jvm.Stand Jvm.Free.XT Jvm.Free.ALB Jvm.Free.JM Jvm.Free
open Jvm.Lib.Cold (StaticIs)
/-- what place i of a byte[]'s cell holds -/
def yv (A : Cell) (i : Nat) : Int32 := match A.slots[i]? with | some (.int x) => x | _ => 0
theorem yv_get {a : Addr} {A : Cell} {U : State} (h : XT.Arr .byte a A U) (ht : Typed .byte A) {i : Nat} (hi : i < A.slots.size) : A.slots[i]? = some (.int (yv A i)) := by
  have e := Array.getElem?_eq_getElem hi
  have f := ht i _ e
  unfold yv; rw [e]
  generalize A.slots[i] = v at f
  cases v <;> simp [fits] at f ⊢
/-- the two arrays are equal, place for place -/
def EqC (A B : Cell) : Prop := A.slots.size = B.slots.size ∧ ∀ i, i < A.slots.size → yv A i = yv B i
/-- a boolean that says whether p -/
def Says01 (q : Prop) (r : Option Value) (s u : State) : Prop := ∃ v : Int32, r = some (.int v) ∧ u.heap = s.heap ∧ ((v = 1 ∧ q) ∨ (v = 0 ∧ ¬ q))
theorem Says01.mv {q : Prop} : ∀ r (U U' V V' : State), U'.heap = U.heap → V.vm.Alike V'.vm → V'.heap = V.heap → Says01 q r U V → Says01 q r U' V' :=
  fun r U U' V V' h1 _ h2 ⟨v, a, b, c⟩ => ⟨v, a, by rw [h1, h2]; exact b, c⟩
namespace LEq
def yN : MethodName := ⟨"java/lang/StringLatin1", "equals", "([B[B)Z"⟩
abbrev yB : ByteArray := jdk_43_method_13_code
theorem d0 : decode yB 0 = .ok (.aload_n 0, 1) := by decide +kernel
theorem d1 : decode yB 1 = .ok (.arraylength, 1) := by decide +kernel
theorem d2 : decode yB 2 = .ok (.aload_n 1, 1) := by decide +kernel
theorem d3 : decode yB 3 = .ok (.arraylength, 1) := by decide +kernel
theorem d4 : decode yB 4 = .ok (.if_icmp (.ne) 30, 3) := by decide +kernel
theorem d7 : decode yB 7 = .ok (.iconst 0, 1) := by decide +kernel
theorem d8 : decode yB 8 = .ok (.istore_n 2, 1) := by decide +kernel
theorem d9 : decode yB 9 = .ok (.iload_n 2, 1) := by decide +kernel
theorem d10 : decode yB 10 = .ok (.aload_n 0, 1) := by decide +kernel
theorem d11 : decode yB 11 = .ok (.arraylength, 1) := by decide +kernel
theorem d12 : decode yB 12 = .ok (.if_icmp (.ge) 20, 3) := by decide +kernel
theorem d15 : decode yB 15 = .ok (.aload_n 0, 1) := by decide +kernel
theorem d16 : decode yB 16 = .ok (.iload_n 2, 1) := by decide +kernel
theorem d17 : decode yB 17 = .ok (.baload, 1) := by decide +kernel
theorem d18 : decode yB 18 = .ok (.aload_n 1, 1) := by decide +kernel
theorem d19 : decode yB 19 = .ok (.iload_n 2, 1) := by decide +kernel
theorem d20 : decode yB 20 = .ok (.baload, 1) := by decide +kernel
theorem d21 : decode yB 21 = .ok (.if_icmp (.eq) 5, 3) := by decide +kernel
theorem d24 : decode yB 24 = .ok (.iconst 0, 1) := by decide +kernel
theorem d25 : decode yB 25 = .ok (.ireturn, 1) := by decide +kernel
theorem d26 : decode yB 26 = .ok (.iinc 2 1, 3) := by decide +kernel
theorem d29 : decode yB 29 = .ok (.goto (-20), 3) := by decide +kernel
theorem d32 : decode yB 32 = .ok (.iconst 1, 1) := by decide +kernel
theorem d33 : decode yB 33 = .ok (.ireturn, 1) := by decide +kernel
theorem d34 : decode yB 34 = .ok (.iconst 0, 1) := by decide +kernel
theorem d35 : decode yB 35 = .ok (.ireturn, 1) := by decide +kernel
def site : List Cond := []
def tab : Cond := tabOf yN yB 3 (some .boolean) site
def P (a : Addr) (A : Cell) (b : Addr) (B : Cell) (args : Array Value) (s : State) : Prop := args = #[.ref a, .ref b] ∧ XT.Arr .byte a A s ∧ Typed .byte A ∧ XT.Arr .byte b B s ∧ Typed .byte B
/-- whether two byte[] are equal, place for place -/
theorem law (l : Launch) (a : Addr) (A : Cell) (b : Addr) (B : Cell) : Law l yN 2 2 0 0 yB 3 (some .boolean) site (P a A b B) (Says01 (EqC A B)) [] 0 0 := by
  refine Law.of_walk (plainFor_of_name (by decide +kernel)) (by decide +kernel) (by decide +kernel) (by decide) (fun _ _ h => by rw [h.1]; rfl) (fun _ U U' hal hh h => ⟨h.1, h.2.1.mv hal hh, h.2.2.1, h.2.2.2.1.mv hal hh, h.2.2.2.2⟩) (fun r U U' V V' h1 hal h2 h => Says01.mv r U U' V V' h1 hal h2 h) ?_
  intro p e s m args below meth c s₁ X0 hexec hbytes hml hret hlk hnm hown hh0 W hP
  obtain ⟨rfl, hA, tA, hB, tB⟩ := hP
  have a31 := hA.2.2.2
  have b31 := hB.2.2.2
  have hA0 := hA.mv X0.warmed.alike hh0
  have hB0 := hB.mv X0.warmed.alike hh0
  have c1 : Steps p.tables e below (s₁.setTop (entryFrame m #[.ref a, .ref b] 3)) (s₁.setTop (mkF m 0 #[.val (.ref a), .val (.ref b), .unset] [])) := entry rfl
  have c2 : Steps p.tables e below (s₁.setTop (entryFrame m #[.ref a, .ref b] 3)) (s₁.setTop (mkF m 4 #[.val (.ref a), .val (.ref b), .unset] [.int (Int32.ofNat B.slots.size), .int (Int32.ofNat A.slots.size)])) := c1.trans (by
    refine XS.aloadN X0.here hexec rfl (hb hbytes d0) rfl rfl ?_
    refine X0.alen hexec hA0 rfl rfl (hb hbytes d1) ?_
    refine XS.aloadN X0.here hexec rfl (hb hbytes d2) rfl rfl ?_
    refine X0.alen hexec hB0 rfl rfl (hb hbytes d3) ?_
    exact Steps.refl _)
  by_cases hs : A.slots.size = B.slots.size
  · have c3 : Steps p.tables e below (s₁.setTop (entryFrame m #[.ref a, .ref b] 3)) (s₁.setTop (mkF m 9 #[.val (.ref a), .val (.ref b), .val (.int 0)] [])) := c2.trans (by
      refine XS.icmpNo X0.here hexec rfl (hb hbytes d4) rfl (ii_ne_f (by rw [hs])) ?_
      refine iconstV X0.here hexec rfl 0 (hb hbytes d7) (by decide) ?_
      refine XS.istoreN X0.here hexec rfl (hb hbytes d8) rfl rfl ?_
      exact Steps.refl _)
    have loop : ∀ (r i : Nat), i + r = A.slots.size → (∀ j, j < i → yv A j = yv B j) → Steps p.tables e below (s₁.setTop (entryFrame m #[.ref a, .ref b] 3)) (s₁.setTop (mkF m 9 #[.val (.ref a), .val (.ref b), .val (.int (Int32.ofNat i))] [])) → ∃ (pc : Nat) (Ls : Array Slot) (v : Int32), (pc = 25 ∨ pc = 33) ∧ ((v = 1 ∧ EqC A B) ∨ (v = 0 ∧ ¬ EqC A B)) ∧ Steps p.tables e below (s₁.setTop (entryFrame m #[.ref a, .ref b] 3)) (s₁.setTop (mkF m pc Ls [.int v])) := by
      intro r
      induction r with
      | zero =>
        intro i hi he cl
        exact ⟨33, _, 1, Or.inr rfl, Or.inl ⟨rfl, hs, fun j hj => he j (by omega)⟩, cl.trans (by
          refine XS.iloadN X0.here hexec rfl (hb hbytes d9) rfl ?_
          refine XS.aloadN X0.here hexec rfl (hb hbytes d10) rfl rfl ?_
          refine X0.alen hexec hA0 rfl rfl (hb hbytes d11) ?_
          refine XS.icmpYes X0.here hexec rfl (pc0 := 12) rfl (hb hbytes d12) rfl (ii_ge_t (nlt32 (by omega) (by omega))) (by decide) rfl ?_
          refine iconstV X0.here hexec rfl 1 (hb hbytes d32) (by decide) ?_
          exact Steps.refl _)⟩
      | succ r ih =>
        intro i hi he cl
        have c4 : Steps p.tables e below (s₁.setTop (entryFrame m #[.ref a, .ref b] 3)) (s₁.setTop (mkF m 21 #[.val (.ref a), .val (.ref b), .val (.int (Int32.ofNat i))] [.int (yv B i), .int (yv A i)])) := cl.trans (by
          refine XS.iloadN X0.here hexec rfl (hb hbytes d9) rfl ?_
          refine XS.aloadN X0.here hexec rfl (hb hbytes d10) rfl rfl ?_
          refine X0.alen hexec hA0 rfl rfl (hb hbytes d11) ?_
          refine XS.icmpNo X0.here hexec rfl (hb hbytes d12) rfl (ii_ge_f (lt32 (by omega) (by omega))) ?_
          refine XS.aloadN X0.here hexec rfl (hb hbytes d15) rfl rfl ?_
          refine XS.iloadN X0.here hexec rfl (hb hbytes d16) rfl ?_
          refine X0.aget hexec hA0 rfl (yv_get hA tA (i := i) (by omega)) rfl rfl (hb hbytes d17) ?_
          refine XS.aloadN X0.here hexec rfl (hb hbytes d18) rfl rfl ?_
          refine XS.iloadN X0.here hexec rfl (hb hbytes d19) rfl ?_
          refine X0.aget hexec hB0 rfl (yv_get hB tB (i := i) (by omega)) rfl rfl (hb hbytes d20) ?_
          exact Steps.refl _)
        by_cases hv : yv A i = yv B i
        · have c5 : Steps p.tables e below (s₁.setTop (entryFrame m #[.ref a, .ref b] 3)) (s₁.setTop (mkF m 9 #[.val (.ref a), .val (.ref b), .val (.int (Int32.ofNat i + 1))] [])) := c4.trans (by
            refine XS.icmpYes X0.here hexec rfl (pc0 := 21) rfl (hb hbytes d21) rfl (ii_eq_t hv) (by decide) rfl ?_
            refine iincV X0.here hexec rfl 1 (hb hbytes d26) (by decide) rfl rfl ?_
            refine XS.goto X0.here hexec rfl (pc0 := 29) rfl (hb hbytes d29) (by decide) rfl ?_
            exact Steps.refl _)
          rw [succ32] at c5
          exact ih (i + 1) (by omega) (fun j hj => by
            by_cases e : j = i
            · rw [e]; exact hv
            · exact he j (by omega)) c5
        · exact ⟨25, _, 0, Or.inl rfl, Or.inr ⟨rfl, fun q => hv (q.2 i (by omega))⟩, c4.trans (by
            refine XS.icmpNo X0.here hexec rfl (hb hbytes d21) rfl (ii_eq_f hv) ?_
            refine iconstV X0.here hexec rfl 0 (hb hbytes d24) (by decide) ?_
            exact Steps.refl _)⟩
    obtain ⟨pc, Ls, v, hpc, hv, cz⟩ := loop A.slots.size 0 (by omega) (fun j hj => absurd hj (Nat.not_lt_zero j)) c3
    have nv : narrow .boolean (.int v) = .int v := by rcases hv with ⟨rfl, -⟩ | ⟨rfl, -⟩ <;> rfl
    rcases hpc with rfl | rfl
    · exact ⟨s₁, some (.int v), _, _, _, X0, rfl, rfl, rfl, (fun h => by cases h), ⟨v, rfl, hh0, hv⟩, fun fs hl => cz.trans (X0.ireturnOut hexec hret nv (Or.inr (Or.inl rfl)) (hb hbytes d25) hl)⟩
    · exact ⟨s₁, some (.int v), _, _, _, X0, rfl, rfl, rfl, (fun h => by cases h), ⟨v, rfl, hh0, hv⟩, fun fs hl => cz.trans (X0.ireturnOut hexec hret nv (Or.inr (Or.inl rfl)) (hb hbytes d33) hl)⟩
  · have c3 : Steps p.tables e below (s₁.setTop (entryFrame m #[.ref a, .ref b] 3)) (s₁.setTop (mkF m 35 #[.val (.ref a), .val (.ref b), .unset] [.int 0])) := c2.trans (by
      refine XS.icmpYes X0.here hexec rfl (pc0 := 4) rfl (hb hbytes d4) rfl (ii_ne_t (ne32 a31 b31 hs)) (by decide) rfl ?_
      refine iconstV X0.here hexec rfl 0 (hb hbytes d34) (by decide) ?_
      exact Steps.refl _)
    exact ⟨s₁, some (.int 0), _, _, _, X0, rfl, rfl, rfl, (fun h => by cases h), ⟨0, rfl, hh0, Or.inr ⟨rfl, fun q => hs q.1⟩⟩, fun fs hl => c3.trans (X0.ireturnOut hexec hret rfl (Or.inr (Or.inl rfl)) (hb hbytes d35) hl)⟩
end LEq
theorem Cod.ty {cd : Int32} {n : Nat} {f : Nat → Int32} {V : Cell} (h : Cod cd n f V) : Typed .byte V := fun i v hv => by
  have hi : i < V.slots.size := (Array.getElem?_eq_some_iff.mp hv).1
  rcases h with ⟨-, k1, k2⟩ | ⟨-, k1, k2, -⟩
  · rw [(k2 i (by omega)).1] at hv; cases hv; exact fits_lo8 _
  · rcases Nat.mod_two_eq_zero_or_one i with e | e
    · obtain ⟨j, rfl⟩ : ∃ j, i = 2 * j := ⟨i / 2, by omega⟩
      rw [(k2 j (by omega)).1] at hv; cases hv; exact fits_lo8 _
    · obtain ⟨j, rfl⟩ : ∃ j, i = 2 * j + 1 := ⟨i / 2, by omega⟩
      rw [(k2 j (by omega)).2] at hv; cases hv; exact fits_lo8 _
/-- the same text -/
def SameT (n : Nat) (f : Nat → Int32) (k : Nat) (g : Nat → Int32) : Prop := n = k ∧ ∀ j, j < n → f j = g j
theorem lo8_inj {x y : Int32} (h0 : ¬ x < 0) (h1 : ¬ 255 < x) (k0 : ¬ y < 0) (k1 : ¬ 255 < y) (h : lo8 x = lo8 y) : x = y := by
  rw [← lo8_mask h0 h1, ← lo8_mask k0 k1, h]
/-- arrays coded by one coder are equal just where the texts are -/
theorem Cod.eqv {cd : Int32} {n k : Nat} {f g : Nat → Int32} {V V' : Cell} (h : Cod cd n f V) (h' : Cod cd k g V') (hf : ∀ j, j < n → ¬ f j < 0 ∧ ¬ 65535 < f j) (hg : ∀ j, j < k → ¬ g j < 0 ∧ ¬ 65535 < g j) : EqC V V' ↔ SameT n f k g := by
  have yvv : ∀ {W : Cell} {i : Nat} {x : Int32}, W.slots[i]? = some (.int x) → yv W i = x := fun q => by unfold yv; rw [q]
  rcases h with ⟨rfl, k1, k2⟩ | ⟨rfl, k1, k2, -⟩
  · rcases h' with ⟨-, m1, m2⟩ | ⟨e, -⟩
    · constructor
      · rintro ⟨e1, e2⟩
        refine ⟨by omega, fun j hj => ?_⟩
        have q := e2 j (by omega)
        rw [yvv (k2 j hj).1, yvv (m2 j (by omega)).1] at q
        exact lo8_inj (hf j hj).1 (k2 j hj).2 (hg j (by omega)).1 (m2 j (by omega)).2 q
      · rintro ⟨rfl, e2⟩
        refine ⟨by omega, fun j hj => ?_⟩
        rw [yvv (k2 j (by omega)).1, yvv (m2 j (by omega)).1, e2 j (by omega)]
    · exact absurd e (by decide)
  · rcases h' with ⟨e, -⟩ | ⟨-, m1, m2, -⟩
    · exact absurd e (by decide)
    · constructor
      · rintro ⟨e1, e2⟩
        refine ⟨by omega, fun j hj => ?_⟩
        have q1 := e2 (2 * j) (by omega)
        have q2 := e2 (2 * j + 1) (by omega)
        rw [yvv (k2 j hj).1, yvv (m2 j (by omega)).1] at q1
        rw [yvv (k2 j hj).2, yvv (m2 j (by omega)).2] at q2
        rw [← pair_says (hf j hj).1 (hf j hj).2, ← pair_says (hg j (by omega)).1 (hg j (by omega)).2, q1, q2]
      · rintro ⟨rfl, e2⟩
        refine ⟨by omega, fun i hi => ?_⟩
        rcases Nat.mod_two_eq_zero_or_one i with e | e
        · obtain ⟨j, rfl⟩ : ∃ j, i = 2 * j := ⟨i / 2, by omega⟩
          rw [yvv (k2 j (by omega)).1, yvv (m2 j (by omega)).1, e2 j (by omega)]
        · obtain ⟨j, rfl⟩ : ∃ j, i = 2 * j + 1 := ⟨i / 2, by omega⟩
          rw [yvv (k2 j (by omega)).2, yvv (m2 j (by omega)).2, e2 j (by omega)]
/-- two codings differ: so do the texts -/
theorem Cod.dif {cd cd' : Int32} {n k : Nat} {f g : Nat → Int32} {V V' : Cell} (h : Cod cd n f V) (h' : Cod cd' k g V') (hne : ¬ cd = cd') : ¬ SameT n f k g := by
  rintro ⟨rfl, e⟩
  rcases h with ⟨rfl, -, k2⟩ | ⟨rfl, -, -, j, hj, hw⟩
  · rcases h' with ⟨rfl, -⟩ | ⟨-, -, -, j, hj, hw⟩
    · exact hne rfl
    · exact (k2 j hj).2 (by rw [e j hj]; exact hw)
  · rcases h' with ⟨-, -, m2⟩ | ⟨rfl, -⟩
    · exact (m2 j hj).2 (by rw [← e j hj]; exact hw)
    · exact hne rfl
/-- an object of exactly C is an instance of C -/
theorem cinst {p : Program} {l : Launch} {e : Env} {R : Room} {s : State} {m : MethodId} {args : Array Value} {below : List Frame} {meth : Method} {c : Code} {T : State} {locs : List Loc} {cells slots : Nat} (X : Stand p l e R s m args below meth c T locs cells slots) (hexec : p.tables.exec = Jvm.exec) {own C : String} {index : Nat} (hown : s.vm.findClass own = some m.cls) (hlink : (Cond.classLink own index C).before args s = true) {a : Addr} (hE : Exact C a T)
    {g : JFrame} (hg : g.method = m) {rest : List Value} (hstack : g.stack = .ref a :: rest) (hdg : decode c.code g.pc = .ok (.instanceof index, 3)) :
    ∃ T', Stand p l e R s m args below meth c T' locs cells slots ∧ T'.heap = T.heap ∧ ∀ target, Steps p.tables e below (T'.setTop { g with pc := g.pc + 3, stack := .int 1 :: rest }) target → Steps p.tables e below (T.setTop g) target := by
  obtain ⟨cB, h1, D, h2, h3, h4⟩ := hE
  have h1' : s.vm.findClass C = some cB := by rw [← X.warmed.alike.findClass]; exact h1
  obtain ⟨vm', X', st⟩ := X.instanceofYes hexec hown hlink h2 h4 h1' (by rw [h3]; exact Jvm.Free.SB.assignable_self _ _) hg hstack hdg
  exact ⟨_, X', rfl, st⟩
theorem cself {p : Program} {l : Launch} {e : Env} {R : Room} {s : State} {m : MethodId} {args : Array Value} {below : List Frame} {meth : Method} {c : Code} {T : State} {locs : List Loc} {cells slots : Nat} (X : Stand p l e R s m args below meth c T locs cells slots) (hexec : p.tables.exec = Jvm.exec) {own C : String} {index : Nat} (hown : s.vm.findClass own = some m.cls) (hlink : (Cond.classLink own index C).before args s = true) {a : Addr} (hE : Exact C a T)
    {g : JFrame} (hg : g.method = m) {rest : List Value} (hstack : g.stack = .ref a :: rest) (hdg : decode c.code g.pc = .ok (.checkcast index, 3)) :
    ∃ T', Stand p l e R s m args below meth c T' locs cells slots ∧ T'.heap = T.heap ∧ ∀ target, Steps p.tables e below (T'.setTop { g with pc := g.pc + 3, stack := .ref a :: rest }) target → Steps p.tables e below (T.setTop g) target := by
  obtain ⟨cB, h1, D, h2, h3, h4⟩ := hE
  have h1' : s.vm.findClass C = some cB := by rw [← X.warmed.alike.findClass]; exact h1
  obtain ⟨vm', X', st⟩ := X.checkcastYes hexec hown hlink h2 h4 h1' (by rw [h3]; exact Jvm.Free.SB.assignable_self _ _) hg hstack hdg
  exact ⟨_, X', rfl, fun t h => st t (by rw [← hstack] at h; exact h)⟩
namespace SEq
def yN : MethodName := ⟨"java/lang/String", "equals", "(Ljava/lang/Object;)Z"⟩
abbrev yB : ByteArray := jdk_42_method_66_code
theorem d0 : decode yB 0 = .ok (.aload_n 0, 1) := by decide +kernel
theorem d1 : decode yB 1 = .ok (.aload_n 1, 1) := by decide +kernel
theorem d2 : decode yB 2 = .ok (.if_acmp (.ne) 5, 3) := by decide +kernel
theorem d5 : decode yB 5 = .ok (.iconst 1, 1) := by decide +kernel
theorem d6 : decode yB 6 = .ok (.ireturn, 1) := by decide +kernel
theorem d7 : decode yB 7 = .ok (.aload_n 1, 1) := by decide +kernel
theorem d8 : decode yB 8 = .ok (.instanceof 10, 3) := by decide +kernel
theorem d11 : decode yB 11 = .ok (.ifCond (.eq) 43, 3) := by decide +kernel
theorem d14 : decode yB 14 = .ok (.aload_n 1, 1) := by decide +kernel
theorem d15 : decode yB 15 = .ok (.checkcast 10, 3) := by decide +kernel
theorem d18 : decode yB 18 = .ok (.astore_n 2, 1) := by decide +kernel
theorem d19 : decode yB 19 = .ok (.getstatic 38, 3) := by decide +kernel
theorem d22 : decode yB 22 = .ok (.ifCond (.eq) 14, 3) := by decide +kernel
theorem d25 : decode yB 25 = .ok (.aload_n 0, 1) := by decide +kernel
theorem d26 : decode yB 26 = .ok (.getfield 15, 3) := by decide +kernel
theorem d29 : decode yB 29 = .ok (.aload_n 2, 1) := by decide +kernel
theorem d30 : decode yB 30 = .ok (.getfield 15, 3) := by decide +kernel
theorem d33 : decode yB 33 = .ok (.if_icmp (.ne) 21, 3) := by decide +kernel
theorem d36 : decode yB 36 = .ok (.aload_n 0, 1) := by decide +kernel
theorem d37 : decode yB 37 = .ok (.getfield 9, 3) := by decide +kernel
theorem d40 : decode yB 40 = .ok (.aload_n 2, 1) := by decide +kernel
theorem d41 : decode yB 41 = .ok (.getfield 9, 3) := by decide +kernel
theorem d44 : decode yB 44 = .ok (.invokestatic 541, 3) := by decide +kernel
theorem d47 : decode yB 47 = .ok (.ifCond (.eq) 7, 3) := by decide +kernel
theorem d50 : decode yB 50 = .ok (.iconst 1, 1) := by decide +kernel
theorem d51 : decode yB 51 = .ok (.goto 4, 3) := by decide +kernel
theorem d54 : decode yB 54 = .ok (.iconst 0, 1) := by decide +kernel
theorem d55 : decode yB 55 = .ok (.ireturn, 1) := by decide +kernel
def site : List Cond := [.classLink "java/lang/String" 10 "java/lang/String", .fieldLink "java/lang/String" 38 "java/lang/String" "COMPACT_STRINGS" "Z", .fieldLink "java/lang/String" 15 "java/lang/String" "coder" "B", .fieldLink "java/lang/String" 9 "java/lang/String" "value" "[B", LEq.tab] ++ staticW "java/lang/String" 541 LEq.yN
def tab : Cond := tabOf yN yB 3 (some .boolean) site
def P (x t : Addr) (V : Cell) (cd : Int32) (n : Nat) (f : Nat → Int32) (y t' : Addr) (V' : Cell) (cd' : Int32) (k : Nat) (g : Nat → Int32) (z : Int32) (args : Array Value) (s : State) : Prop := args = #[.ref x, .ref y] ∧ Txt x t V cd n f s ∧ Txt y t' V' cd' k g s ∧ StaticIs s "java/lang/String" "COMPACT_STRINGS" "Z" (.int z) ∧ ¬ z = 0
/-- equals(Object) of two Strings: whether the texts are the same -/
theorem law (l : Launch) (x t : Addr) (V : Cell) (cd : Int32) (n : Nat) (f : Nat → Int32) (y t' : Addr) (V' : Cell) (cd' : Int32) (k : Nat) (g : Nat → Int32) (z : Int32) : Law l yN 2 1 1 14 yB 3 (some .boolean) site (P x t V cd n f y t' V' cd' k g z) (Says01 (SameT n f k g)) [] 0 0 := by
  refine Law.of_walk (plainFor_of_name (by decide +kernel)) (by decide +kernel) (by decide +kernel) (by decide) (fun _ _ h => by rw [h.1]; rfl) (fun _ U U' hal hh h => ⟨h.1, h.2.1.mv hal hh, h.2.2.1.mv hal hh, h.2.2.2.1.there hal hh, h.2.2.2.2⟩) (fun r U U' V V' h1 hal h2 h => Says01.mv r U U' V V' h1 hal h2 h) ?_
  intro p e s m args below meth c s₁ X0 hexec hbytes hml hret hlk hnm hown hh0 W hP
  obtain ⟨rfl, hx, hy, s1, hz⟩ := hP
  have c1 : Steps p.tables e below (s₁.setTop (entryFrame m #[.ref x, .ref y] 3)) (s₁.setTop (mkF m 2 #[.val (.ref x), .val (.ref y), .unset] [.ref y, .ref x])) := Steps.trans (entry rfl) (by
    show Steps p.tables e below (s₁.setTop (mkF m 0 #[.val (.ref x), .val (.ref y), .unset] [])) _
    refine XS.aloadN X0.here hexec rfl (hb hbytes d0) rfl rfl ?_
    refine XS.aloadN X0.here hexec rfl (hb hbytes d1) rfl rfl ?_
    exact Steps.refl _)
  by_cases hxy : x = y
  · have c2 : Steps p.tables e below (s₁.setTop (entryFrame m #[.ref x, .ref y] 3)) (s₁.setTop (mkF m 6 #[.val (.ref x), .val (.ref y), .unset] [.int 1])) := c1.trans (by
      refine acmpNo X0.here hexec rfl (hb hbytes d2) rfl rfl rfl (by simp [acmp, hxy]) ?_
      refine iconstV X0.here hexec rfl 1 (hb hbytes d5) (by decide) ?_
      exact Steps.refl _)
    subst hxy
    have ec : cd = cd' := by
      obtain ⟨D, fd, a1, a2, a3⟩ := hx.2.2.1
      obtain ⟨D', fd', b1, b2, b3⟩ := hy.2.2.1
      cases a1.symm.trans b1
      obtain ⟨q1, q2, q3, q4⟩ := a2.1
      obtain ⟨r1, r2, r3, r4⟩ := b2.1
      cases q4.symm.trans r4
      cases a3.symm.trans b3; rfl
    have et : t = t' := by
      obtain ⟨D, fd, a1, a2, a3⟩ := hx.2.1
      obtain ⟨D', fd', b1, b2, b3⟩ := hy.2.1
      cases a1.symm.trans b1
      obtain ⟨q1, q2, q3, q4⟩ := a2.1
      obtain ⟨r1, r2, r3, r4⟩ := b2.1
      cases q4.symm.trans r4
      cases a3.symm.trans b3; rfl
    subst ec et
    have ev : V = V' := by cases hx.2.2.2.1.1.symm.trans hy.2.2.2.1.1; rfl
    subst ev
    have hs : SameT n f k g := (Cod.eqv hx.2.2.2.2.1 hy.2.2.2.2.1 hx.2.2.2.2.2 hy.2.2.2.2.2).mp ⟨rfl, fun _ _ => rfl⟩
    exact ⟨s₁, some (.int 1), _, _, _, X0, rfl, rfl, rfl, (fun h => by cases h), ⟨1, rfl, hh0, Or.inl ⟨rfl, hs⟩⟩, fun fs hl => c2.trans (X0.ireturnOut hexec hret rfl (Or.inr (Or.inl rfl)) (hb hbytes d6) hl)⟩
  · have c2 : Steps p.tables e below (s₁.setTop (entryFrame m #[.ref x, .ref y] 3)) (s₁.setTop (mkF m 8 #[.val (.ref x), .val (.ref y), .unset] [.ref y])) := c1.trans (by
      refine acmpYes X0.here hexec rfl (pc0 := 2) rfl (hb hbytes d2) rfl rfl rfl (by simp [acmp, hxy]) (by decide) rfl ?_
      refine XS.aloadN X0.here hexec rfl (hb hbytes d7) rfl rfl ?_
      exact Steps.refl _)
    obtain ⟨T3, X3, q3, st3⟩ := cinst X0 hexec hown (wk W (.classLink "java/lang/String" 10 "java/lang/String")) (hy.mv X0.warmed.alike hh0).1 (g := (mkF m 8 #[.val (.ref x), .val (.ref y), .unset] [.ref y])) rfl (rest := []) rfl (hb hbytes d8)
    have hh3 := q3.trans hh0
    have c4 : Steps p.tables e below (s₁.setTop (entryFrame m #[.ref x, .ref y] 3)) (T3.setTop (mkF m 15 #[.val (.ref x), .val (.ref y), .unset] [.ref y])) := (c2.trans (st3 _ (Steps.refl _))).trans (by
      refine XS.ifNo X3.here hexec rfl (hb hbytes d11) rfl (i0_eq_f (by decide)) ?_
      refine XS.aloadN X3.here hexec rfl (hb hbytes d14) rfl rfl ?_
      exact Steps.refl _)
    obtain ⟨T5, X5, q5, st5⟩ := cself X3 hexec hown (wk W (.classLink "java/lang/String" 10 "java/lang/String")) (hy.mv X3.warmed.alike hh3).1 (g := (mkF m 15 #[.val (.ref x), .val (.ref y), .unset] [.ref y])) rfl (rest := []) rfl (hb hbytes d15)
    have hh5 := q5.trans hh3
    have c6 : Steps p.tables e below (s₁.setTop (entryFrame m #[.ref x, .ref y] 3)) (T5.setTop (mkF m 19 #[.val (.ref x), .val (.ref y), .val (.ref y)] [])) := (c4.trans (st5 _ (Steps.refl _))).trans (by
      refine XS.astoreN X5.here hexec rfl (hb hbytes d18) rfl rfl rfl ?_
      exact Steps.refl _)
    obtain ⟨T7, X7, q7, st7⟩ := X5.sget hexec hown (wk W (.fieldLink "java/lang/String" 38 "java/lang/String" "COMPACT_STRINGS" "Z")) s1 (fun _ _ h => by rw [hh5]; exact h) (g := (mkF m 19 #[.val (.ref x), .val (.ref y), .val (.ref y)] [])) rfl (hb hbytes d19)
    have hh7 := q7.trans hh5
    have c8 : Steps p.tables e below (s₁.setTop (entryFrame m #[.ref x, .ref y] 3)) (T7.setTop (mkF m 26 #[.val (.ref x), .val (.ref y), .val (.ref y)] [.ref x])) := (c6.trans (st7 _ (Steps.refl _))).trans (by
      refine XS.ifNo X7.here hexec rfl (hb hbytes d22) rfl (i0_eq_f hz) ?_
      refine XS.aloadN X7.here hexec rfl (hb hbytes d25) rfl rfl ?_
      exact Steps.refl _)
    obtain ⟨T9, X9, q9, st9⟩ := X7.hget hexec hown (wk W (.fieldLink "java/lang/String" 15 "java/lang/String" "coder" "B")) (hx.mv X7.warmed.alike hh7).2.2.1 (g := (mkF m 26 #[.val (.ref x), .val (.ref y), .val (.ref y)] [.ref x])) rfl (rest := []) rfl (hb hbytes d26)
    have hh9 := q9.trans hh7
    have c10 : Steps p.tables e below (s₁.setTop (entryFrame m #[.ref x, .ref y] 3)) (T9.setTop (mkF m 30 #[.val (.ref x), .val (.ref y), .val (.ref y)] [.ref y, .int cd])) := (c8.trans (st9 _ (Steps.refl _))).trans (by
      refine XS.aloadN X9.here hexec rfl (hb hbytes d29) rfl rfl ?_
      exact Steps.refl _)
    obtain ⟨T11, X11, q11, st11⟩ := X9.hget hexec hown (wk W (.fieldLink "java/lang/String" 15 "java/lang/String" "coder" "B")) (hy.mv X9.warmed.alike hh9).2.2.1 (g := (mkF m 30 #[.val (.ref x), .val (.ref y), .val (.ref y)] [.ref y, .int cd])) rfl (rest := [.int cd]) rfl (hb hbytes d30)
    have hh11 := q11.trans hh9
    have c12 : Steps p.tables e below (s₁.setTop (entryFrame m #[.ref x, .ref y] 3)) (T11.setTop (mkF m 33 #[.val (.ref x), .val (.ref y), .val (.ref y)] [.int cd', .int cd])) := c10.trans (st11 _ (Steps.refl _))
    by_cases hcd : cd = cd'
    · subst hcd
      have c13 : Steps p.tables e below (s₁.setTop (entryFrame m #[.ref x, .ref y] 3)) (T11.setTop (mkF m 37 #[.val (.ref x), .val (.ref y), .val (.ref y)] [.ref x])) := c12.trans (by
        refine XS.icmpNo X11.here hexec rfl (hb hbytes d33) rfl (ii_ne_f rfl) ?_
        refine XS.aloadN X11.here hexec rfl (hb hbytes d36) rfl rfl ?_
        exact Steps.refl _)
      obtain ⟨T14, X14, q14, st14⟩ := X11.hget hexec hown (wk W (.fieldLink "java/lang/String" 9 "java/lang/String" "value" "[B")) (hx.mv X11.warmed.alike hh11).2.1 (g := (mkF m 37 #[.val (.ref x), .val (.ref y), .val (.ref y)] [.ref x])) rfl (rest := []) rfl (hb hbytes d37)
      have hh14 := q14.trans hh11
      have c15 : Steps p.tables e below (s₁.setTop (entryFrame m #[.ref x, .ref y] 3)) (T14.setTop (mkF m 41 #[.val (.ref x), .val (.ref y), .val (.ref y)] [.ref y, .ref t])) := (c13.trans (st14 _ (Steps.refl _))).trans (by
        refine XS.aloadN X14.here hexec rfl (hb hbytes d40) rfl rfl ?_
        exact Steps.refl _)
      obtain ⟨T16, X16, q16, st16⟩ := X14.hget hexec hown (wk W (.fieldLink "java/lang/String" 9 "java/lang/String" "value" "[B")) (hy.mv X14.warmed.alike hh14).2.1 (g := (mkF m 41 #[.val (.ref x), .val (.ref y), .val (.ref y)] [.ref y, .ref t])) rfl (rest := [.ref t]) rfl (hb hbytes d41)
      have hh16 := q16.trans hh14
      have c17 : Steps p.tables e below (s₁.setTop (entryFrame m #[.ref x, .ref y] 3)) (T16.setTop (mkF m 44 #[.val (.ref x), .val (.ref y), .val (.ref y)] [.ref t', .ref t])) := c15.trans (st16 _ (Steps.refl _))
      obtain ⟨v18, T18, X18, E18, g18⟩ := X16.callS hexec (LEq.law l t V t' V') hown (wks W (staticW "java/lang/String" 541 LEq.yN)) (wk W LEq.tab) (W := 0) (Nat.le_of_ble_eq_true rfl) (Nat.le_of_ble_eq_true rfl) (Nat.le_refl _) (Nat.le_refl _) (g := (mkF m 44 #[.val (.ref x), .val (.ref y), .val (.ref y)] [.ref t', .ref t])) rfl (by rw [hml]; rfl) c17 (argsL := [.ref t, .ref t']) (rest := []) rfl rfl (by show 2 * 0 + 0 ≤ _; decide) (hb hbytes d44) (⟨rfl, hx.2.2.2.1.mv X16.warmed.alike hh16, hx.2.2.2.2.1.ty, hy.2.2.2.1.mv X16.warmed.alike hh16, hy.2.2.2.2.1.ty⟩)
      obtain ⟨v, rfl, q18, hv⟩ := E18
      have iff := Cod.eqv hx.2.2.2.2.1 hy.2.2.2.2.1 hx.2.2.2.2.2 hy.2.2.2.2.2
      rcases hv with ⟨rfl, he⟩ | ⟨rfl, he⟩
      · have c19 : Steps p.tables e below (s₁.setTop (entryFrame m #[.ref x, .ref y] 3)) (T18.setTop (mkF m 55 #[.val (.ref x), .val (.ref y), .val (.ref y)] [.int 1])) := Steps.trans g18 (by
          refine XS.ifNo X18.here hexec rfl (hb hbytes d47) rfl (i0_eq_f (by decide)) ?_
          refine iconstV X18.here hexec rfl 1 (hb hbytes d50) (by decide) ?_
          refine XS.goto X18.here hexec rfl (pc0 := 51) rfl (hb hbytes d51) (by decide) rfl ?_
          exact Steps.refl _)
        exact ⟨T18, some (.int 1), _, _, _, X18, rfl, rfl, rfl, (fun h => by cases h), ⟨1, rfl, q18.trans hh16, Or.inl ⟨rfl, iff.mp he⟩⟩, fun fs hl => c19.trans (X18.ireturnOut hexec hret rfl (Or.inr (Or.inl rfl)) (hb hbytes d55) hl)⟩
      · have c19 : Steps p.tables e below (s₁.setTop (entryFrame m #[.ref x, .ref y] 3)) (T18.setTop (mkF m 55 #[.val (.ref x), .val (.ref y), .val (.ref y)] [.int 0])) := Steps.trans g18 (by
          refine XS.ifYes X18.here hexec rfl (pc0 := 47) rfl (hb hbytes d47) rfl (i0_eq_t rfl) (by decide) rfl ?_
          refine iconstV X18.here hexec rfl 0 (hb hbytes d54) (by decide) ?_
          exact Steps.refl _)
        exact ⟨T18, some (.int 0), _, _, _, X18, rfl, rfl, rfl, (fun h => by cases h), ⟨0, rfl, q18.trans hh16, Or.inr ⟨rfl, fun q => he (iff.mpr q)⟩⟩, fun fs hl => c19.trans (X18.ireturnOut hexec hret rfl (Or.inr (Or.inl rfl)) (hb hbytes d55) hl)⟩
    · have c13 : Steps p.tables e below (s₁.setTop (entryFrame m #[.ref x, .ref y] 3)) (T11.setTop (mkF m 55 #[.val (.ref x), .val (.ref y), .val (.ref y)] [.int 0])) := c12.trans (by
        refine XS.icmpYes X11.here hexec rfl (pc0 := 33) rfl (hb hbytes d33) rfl (ii_ne_t hcd) (by decide) rfl ?_
        refine iconstV X11.here hexec rfl 0 (hb hbytes d54) (by decide) ?_
        exact Steps.refl _)
      exact ⟨T11, some (.int 0), _, _, _, X11, rfl, rfl, rfl, (fun h => by cases h), ⟨0, rfl, hh11, Or.inr ⟨rfl, Cod.dif hx.2.2.2.2.1 hy.2.2.2.2.1 hcd⟩⟩, fun fs hl => c13.trans (X11.ireturnOut hexec hret rfl (Or.inr (Or.inl rfl)) (hb hbytes d55) hl)⟩
theorem pays {l : Launch} {R : Room} {p : Program} {e : Env} {below : List Frame} {s : State} {sargs : Array Value} {len W : Nat} (x t : Addr) (V : Cell) (cd : Int32) (n : Nat) (f : Nat → Int32) (y t' : Addr) (V' : Cell) (cd' : Int32) (k : Nat) (g : Nat → Int32) (z : Int32) (htab : tab.before sargs s = true) (hfr : 2 ≤ R.frames) (hlo : W + 28 ≤ R.locals) :
    Back l R p e below s sargs yN len W (fun A₁ a₁ => A₁.cells + 0 ≤ R.cells ∧ A₁.slots + 0 ≤ R.slots ∧ P x t V cd n f y t' V' cd' k g z a₁ A₁.U) (fun A₁ _ v₁ B₁ => Says01 (SameT n f k g) v₁ A₁.U B₁.U ∧ B₁.locs = A₁.locs ++ [] ∧ B₁.cells = A₁.cells + 0 ∧ B₁.slots = A₁.slots + 0) :=
  (law l x t V cd n f y t' V' cd' k g z).pays htab hfr (by omega)
end SEq
end StrChars
namespace StrChars.Road
open Jvm Sem ClassFile Op Lib Jvm.Stand Jvm.Free Jvm.Free.XT
open Jvm.Lib.Cold (StaticIs)
/-- the words of String.equals(Object) -/
abbrev wordsEq : List Jvm.Cond := [.code SEq.yN SEq.yB 3 (some .boolean), .initialized ST, .classLink ST 10 ST, .fieldLink ST 38 ST "COMPACT_STRINGS" "Z", .fieldLink ST 15 ST "coder" "B", .fieldLink ST 9 ST "value" "[B", .methodLink ST 541 LEq.yN, .static LEq.yN, .code LEq.yN LEq.yB 3 (some .boolean), .initialized "java/lang/StringLatin1"]
theorem tabEq_of {a : Array Value} {s : State} (h : ∀ w ∈ wordsEq, w.before a s = true) : SEq.tab.before a s = true := by
  have hl : LEq.tab.before a s = true := unparts (wk h (.code LEq.yN LEq.yB 3 (some .boolean))) (wks h (.initialized LEq.yN.cls :: LEq.site))
  have q := consq hl h
  exact unparts (wk q (.code SEq.yN SEq.yB 3 (some .boolean))) (wks q (.initialized SEq.yN.cls :: SEq.site))
theorem movedEq {Z s : State} {a0 args : Array Value} (hZ : Z.Warmed39 s.vm) (hw : ∀ d ∈ wordsEq, d.before a0 Z = true) : ∀ d ∈ wordsEq, d.before args s = true := fun d hd => by
  have t : ∀ d ∈ wordsEq, (d.onTables && d.keepsFace) = true := by decide +kernel
  exact RoadKit.mv hZ (hw d hd) (t d hd)
/-- the road's facts of a String, as the laws ask it -/
theorem txt_of {Z U : State} {a0 : Array Value} {kI : Nat} (wi : (Jvm.Cond.instantiable ST kI).before a0 Z = true) (al : Z.vm.Alike U.vm) {x t : Addr} {kb : ClassId} {cs : List Int32} {cd N2 : Int32} {vs : List Value} (E : RoadKit.Exa Z U.heap x ST) (V : RoadKit.Fld Z U.heap x ST "value" "[B" (.ref t)) (C : RoadKit.Fld Z U.heap x ST "coder" "B" (.int cd)) (K : RoadKit.Arv Z U.heap t kb .byte N2 vs (.int 0)) (hc : CodA cs cd N2 vs) (hb : ∀ c ∈ cs, ¬ c < 0 ∧ ¬ (65535 : Int32) < c) (l2 : cs.length ≤ 4000) :
    ∃ A, Txt x t A cd cs.length (fun j => cs.getD j 0) U := by
  obtain ⟨A, K1, K2, K3, K4, K5, K6⟩ := K
  have hcod := hc.cod (by omega) K3 K5
  obtain ⟨D, fV, fC, hB, F1, F2, g1, g2, -, -⟩ := strObj wi al E V C
  exact ⟨A, ⟨_, hB.2.2.1, D, hB.1, rfl, by cases q : D.vm <;> first | rfl | exact absurd q (hB.2.1.2 _)⟩, Has.of hB F1 g1, Has.of hB F2 g2, ⟨K1.1, State.isArrayOf_alike al K1.2.1, K1.2.2, by rcases hcod with ⟨-, q, -⟩ | ⟨-, q, -⟩ <;> omega⟩, hcod, fun j hj => by
    have e : cs.getD j 0 = cs[j] := by simp [List.getD_eq_getElem?_getD, hj]
    show ¬ cs.getD j 0 < 0 ∧ ¬ 65535 < cs.getD j 0
    rw [e]; exact hb _ (List.getElem_mem _)⟩
theorem same_list (cs ds : List Int32) : SameT cs.length (fun j => cs.getD j 0) ds.length (fun j => ds.getD j 0) ↔ cs = ds := by
  constructor
  · rintro ⟨e, q⟩
    refine List.ext_getElem e fun j h1 h2 => ?_
    have := q j h1
    simpa [List.getD_eq_getElem?_getD, h1, h2] using this
  · rintro rfl
    exact ⟨rfl, fun _ _ => rfl⟩
/-- **equals(Object) OF TWO SUCH STRINGS**: 1 just where the chars are the same -/
theorem eqW {p : Program} {l : Launch} {e : Env} {R : Room} {s : State} {args : Array Value} {below : List Frame} {len W : Nat} {Z : State} {a0 : Array Value} {h : Heap} (hZ : Z.Warmed39 s.vm) (hw : ∀ d ∈ wordsEq, d.before a0 Z = true) {kI : Nat} (wi : (Jvm.Cond.instantiable ST kI).before a0 Z = true)
    {x t : Addr} {kb : ClassId} {cs : List Int32} {cd N2 : Int32} {vs : List Value} (E : RoadKit.Exa Z h x ST) (V : RoadKit.Fld Z h x ST "value" "[B" (.ref t)) (C : RoadKit.Fld Z h x ST "coder" "B" (.int cd)) (K : RoadKit.Arv Z h t kb .byte N2 vs (.int 0)) (hc : CodA cs cd N2 vs) (hb : ∀ c ∈ cs, ¬ c < 0 ∧ ¬ (65535 : Int32) < c) (l2 : cs.length ≤ 4000)
    {y t' : Addr} {kb' : ClassId} {ds : List Int32} {cd' N2' : Int32} {vs' : List Value} (E' : RoadKit.Exa Z h y ST) (V' : RoadKit.Fld Z h y ST "value" "[B" (.ref t')) (C' : RoadKit.Fld Z h y ST "coder" "B" (.int cd')) (K' : RoadKit.Arv Z h t' kb' .byte N2' vs' (.int 0)) (hc' : CodA ds cd' N2' vs') (hb' : ∀ c ∈ ds, ¬ c < 0 ∧ ¬ (65535 : Int32) < c) (l2' : ds.length ≤ 4000)
    {z : Int32} (S : RoadKit.Sta Z h ST "COMPACT_STRINGS" "Z" (.int z)) (hz : ¬ z = 0) (hfr : 2 ≤ R.frames) (hlo : W + 28 ≤ R.locals) :
    Back l R p e below s args (⟨"java/lang/String", "equals", "(Ljava/lang/Object;)Z"⟩ : MethodName) len W (fun P a => a = #[.ref x, .ref y] ∧ P.U.heap = h ∧ P.cells + 0 ≤ R.cells ∧ P.slots + 0 ≤ R.slots)
      (fun P _ v B => ∃ L, (((v = some (.int 1) ∧ cs = ds) ∨ (v = some (.int 0) ∧ ¬ cs = ds)) ∧ L = [] ∧ B.U.heap = h) ∧ B.locs = P.locs ++ L ∧ B.cells = P.cells + 0 ∧ B.slots = P.slots + 0) := by
  intro m meth c P g ig mk a X hg hsize hdg hW hn hp'
  obtain ⟨rfl, rfl, r1, r2⟩ := hp'
  have al : Z.vm.Alike P.U.vm := hZ.alike.trans X.warmed.alike
  obtain ⟨A, hx⟩ := txt_of wi al E V C K hc hb l2
  obtain ⟨A', hy⟩ := txt_of wi al E' V' C' K' hc' hb' l2'
  obtain ⟨v, B, X', ⟨⟨w, hv, hh, hq⟩, hl, hk, hs⟩, st⟩ := SEq.pays x t A cd cs.length (fun j => cs.getD j 0) y t' A' cd' ds.length (fun j => ds.getD j 0) z (tabEq_of (movedEq hZ hw)) hfr hlo m meth c P g ig mk _ X hg hsize hdg hW hn ⟨r1, r2, rfl, hx, hy, sta_is al S, hz⟩
  refine ⟨v, B, X', ⟨[], ⟨?_, rfl, hh⟩, hl, hk, hs⟩, st⟩
  rcases hq with ⟨rfl, q⟩ | ⟨rfl, q⟩
  · exact Or.inl ⟨hv, (same_list cs ds).mp q⟩
  · exact Or.inr ⟨hv, fun e => q ((same_list cs ds).mpr e)⟩
end StrChars.Road
end Jvm.Pilot.@@N@@
namespace Jvm.Pilot.@@N@@
open Jvm Jvm.ClassFile Sem Op Lib Jvm.Free Jvm.Stand Jvm.LawKit Jvm.RoadKit Bundle Jvm.Own Jvm.Pilot.@@N@@.Jvm.D
abbrev own_EL : List (String × Nat) := consts_1
theorem lt0_a : ∀ c ∈ ("" : String).toList, c.toNat < 256 := by decide +kernel
theorem lt0_b : ("" : String).toList.map (fun c => Value.int (Jvm.Lit.byteI c.toNat.toUInt16)) = (([] : List Int32) : List Int32).map fun c => Value.int c.toInt8.toInt32 := by decide +kernel
theorem lt0_c : ∀ c ∈ (([] : List Int32) : List Int32), ¬ c < 0 ∧ ¬ (255 : Int32) < c := by decide +kernel
theorem lt0_d : 4 * ("" : String).toList.length = 0 := by decide +kernel
theorem lt1_a : ∀ c ∈ (" must be above zero" : String).toList, c.toNat < 256 := by decide +kernel
theorem lt1_b : (" must be above zero" : String).toList.map (fun c => Value.int (Jvm.Lit.byteI c.toNat.toUInt16)) = ([(32 : Int32), (109 : Int32), (117 : Int32), (115 : Int32), (116 : Int32), (32 : Int32), (98 : Int32), (101 : Int32), (32 : Int32), (97 : Int32), (98 : Int32), (111 : Int32), (118 : Int32), (101 : Int32), (32 : Int32), (122 : Int32), (101 : Int32), (114 : Int32), (111 : Int32)] : List Int32).map fun c => Value.int c.toInt8.toInt32 := by decide +kernel
theorem lt1_c : ∀ c ∈ ([(32 : Int32), (109 : Int32), (117 : Int32), (115 : Int32), (116 : Int32), (32 : Int32), (98 : Int32), (101 : Int32), (32 : Int32), (97 : Int32), (98 : Int32), (111 : Int32), (118 : Int32), (101 : Int32), (32 : Int32), (122 : Int32), (101 : Int32), (114 : Int32), (111 : Int32)] : List Int32), ¬ c < 0 ∧ ¬ (255 : Int32) < c := by decide +kernel
theorem lt1_d : 4 * (" must be above zero" : String).toList.length = 76 := by decide +kernel
theorem wdk {c : Cond} (i : Nat) (h : tables_1[i]? = some c) : c ∈ tables_1 := List.mem_of_getElem? h
theorem wd_0 : (Cond.classLink "com/example/yusen/yusen/figures/ChecksNotPositivePinLaw" 7 "java/lang/String") ∈ tables_1 := wdk 0 rfl
theorem wd_1 : (Cond.instantiable "java/lang/String" 4) ∈ tables_1 := wdk 1 rfl
theorem wd_2 : (Cond.initialized "java/lang/String") ∈ tables_1 := wdk 2 rfl
theorem wd_3 : (Cond.arrayClass FieldType.char) ∈ tables_1 := wdk 3 rfl
theorem wd_4 : (Cond.methodLink "com/example/yusen/yusen/figures/ChecksNotPositivePinLaw" 9 ⟨"java/lang/String", "<init>", "([C)V"⟩) ∈ tables_1 := wdk 4 rfl
theorem wd_5 : (Cond.instanceMethod ⟨"java/lang/String", "<init>", "([C)V"⟩) ∈ tables_1 := wdk 5 rfl
theorem wd_6 : (Cond.code ⟨"java/lang/String", "<init>", "([C)V"⟩ jdk_42_method_3_code 2 (Option.none : Option FieldType)) ∈ tables_1 := wdk 6 rfl
theorem wd_7 : (Cond.methodLink "java/lang/String" 27 ⟨"java/lang/String", "<init>", "([CIILjava/lang/Void;)V"⟩) ∈ tables_1 := wdk 7 rfl
theorem wd_8 : (Cond.instanceMethod ⟨"java/lang/String", "<init>", "([CIILjava/lang/Void;)V"⟩) ∈ tables_1 := wdk 8 rfl
theorem wd_10 : (Cond.code ⟨"java/lang/String", "<init>", "([CIILjava/lang/Void;)V"⟩ jdk_42_method_149_code 6 (Option.none : Option FieldType)) ∈ tables_1 := wdk 10 rfl
theorem wd_11 : (Cond.methodLink "java/lang/String" 1 ⟨"java/lang/Object", "<init>", "()V"⟩) ∈ tables_1 := wdk 11 rfl
theorem wd_12 : (Cond.instanceMethod ⟨"java/lang/Object", "<init>", "()V"⟩) ∈ tables_1 := wdk 12 rfl
theorem wd_13 : (Cond.code ⟨"java/lang/Object", "<init>", "()V"⟩ object_method_1_code 1 (Option.none : Option FieldType)) ∈ tables_1 := wdk 13 rfl
theorem wd_14 : (Cond.stringLink "java/lang/String" 7 "") ∈ tables_1 := wdk 14 rfl
theorem wd_15 : (Cond.arrayClass FieldType.byte) ∈ tables_1 := wdk 15 rfl
theorem wd_16 : (Cond.laysFinal "java/lang/String" "java/lang/String" "value" "[B") ∈ tables_1 := wdk 16 rfl
theorem wd_17 : (Cond.laysFinal "java/lang/String" "java/lang/String" "coder" "B") ∈ tables_1 := wdk 17 rfl
theorem wd_18 : (Cond.soleField "java/lang/String" "value") ∈ tables_1 := wdk 18 rfl
theorem wd_19 : (Cond.soleField "java/lang/String" "coder") ∈ tables_1 := wdk 19 rfl
theorem wd_20 : (Cond.fieldLink "java/lang/String" 9 "java/lang/String" "value" "[B") ∈ tables_1 := wdk 20 rfl
theorem wd_21 : (Cond.fieldLink "java/lang/String" 15 "java/lang/String" "coder" "B") ∈ tables_1 := wdk 21 rfl
theorem wd_22 : (Cond.methodLink "com/example/yusen/yusen/figures/ChecksNotPositivePinLaw" 16 ⟨"com/example/yusen/yusen/figures/Checks", "notPositive", "(Ljava/lang/String;)Ljava/lang/IllegalArgumentException;"⟩) ∈ tables_1 := wdk 22 rfl
theorem wd_23 : (Cond.static ⟨"com/example/yusen/yusen/figures/Checks", "notPositive", "(Ljava/lang/String;)Ljava/lang/IllegalArgumentException;"⟩) ∈ tables_1 := wdk 23 rfl
theorem wd_24 : (Cond.initialized "com/example/yusen/yusen/figures/Checks") ∈ tables_1 := wdk 24 rfl
theorem wd_25 : (Cond.code ⟨"com/example/yusen/yusen/figures/Checks", "notPositive", "(Ljava/lang/String;)Ljava/lang/IllegalArgumentException;"⟩ prog_15_method_3_code 1 (Option.some (FieldType.object "java/lang/IllegalArgumentException"))) ∈ tables_1 := wdk 25 rfl
theorem wd_26 : (Cond.classLink "com/example/yusen/yusen/figures/Checks" 13 "java/lang/IllegalArgumentException") ∈ tables_1 := wdk 26 rfl
theorem wd_27 : (Cond.instantiable "java/lang/IllegalArgumentException" 6) ∈ tables_1 := wdk 27 rfl
theorem wd_28 : (Cond.initialized "java/lang/IllegalArgumentException") ∈ tables_1 := wdk 28 rfl
theorem wd_29 : (Cond.classLink "com/example/yusen/yusen/figures/Checks" 15 "java/lang/StringBuilder") ∈ tables_1 := wdk 29 rfl
theorem wd_30 : (Cond.instantiable "java/lang/StringBuilder" 4) ∈ tables_1 := wdk 30 rfl
theorem wd_31 : (Cond.initialized "java/lang/StringBuilder") ∈ tables_1 := wdk 31 rfl
theorem wd_32 : (Cond.methodLink "com/example/yusen/yusen/figures/Checks" 17 ⟨"java/lang/StringBuilder", "<init>", "()V"⟩) ∈ tables_1 := wdk 32 rfl
theorem wd_33 : (Cond.instanceMethod ⟨"java/lang/StringBuilder", "<init>", "()V"⟩) ∈ tables_1 := wdk 33 rfl
theorem wd_34 : (Cond.code ⟨"java/lang/StringBuilder", "<init>", "()V"⟩ jdk_67_method_1_code 1 (Option.none : Option FieldType)) ∈ tables_1 := wdk 34 rfl
theorem wd_35 : (Cond.methodLink "java/lang/StringBuilder" 1 ⟨"java/lang/AbstractStringBuilder", "<init>", "(I)V"⟩) ∈ tables_1 := wdk 35 rfl
theorem wd_36 : (Cond.instanceMethod ⟨"java/lang/AbstractStringBuilder", "<init>", "(I)V"⟩) ∈ tables_1 := wdk 36 rfl
theorem wd_39 : (Cond.initialized "java/lang/AbstractStringBuilder") ∈ tables_1 := wdk 39 rfl
theorem wd_40 : (Cond.code ⟨"java/lang/AbstractStringBuilder", "<init>", "(I)V"⟩ jdk_68_method_2_code 2 (Option.none : Option FieldType)) ∈ tables_1 := wdk 40 rfl
theorem wd_41 : (Cond.methodLink "java/lang/AbstractStringBuilder" 3 ⟨"java/lang/Object", "<init>", "()V"⟩) ∈ tables_1 := wdk 41 rfl
theorem wd_42 : (Cond.fieldLink "java/lang/AbstractStringBuilder" 18 "java/lang/String" "COMPACT_STRINGS" "Z") ∈ tables_1 := wdk 42 rfl
theorem wd_43 : (Cond.fieldLink "java/lang/AbstractStringBuilder" 15 "java/lang/AbstractStringBuilder" "value" "[B") ∈ tables_1 := wdk 43 rfl
theorem wd_44 : (Cond.lays "java/lang/StringBuilder" "java/lang/AbstractStringBuilder" "value" "[B") ∈ tables_1 := wdk 44 rfl
theorem wd_45 : (Cond.fieldLink "java/lang/AbstractStringBuilder" 22 "java/lang/AbstractStringBuilder" "coder" "B") ∈ tables_1 := wdk 45 rfl
theorem wd_46 : (Cond.lays "java/lang/StringBuilder" "java/lang/AbstractStringBuilder" "coder" "B") ∈ tables_1 := wdk 46 rfl
theorem wd_47 : (Cond.methodLink "com/example/yusen/yusen/figures/Checks" 18 ⟨"java/lang/StringBuilder", "append", "(Ljava/lang/String;)Ljava/lang/StringBuilder;"⟩) ∈ tables_1 := wdk 47 rfl
theorem wd_48 : (Cond.declares ⟨"java/lang/StringBuilder", "append", "(Ljava/lang/String;)Ljava/lang/StringBuilder;"⟩) ∈ tables_1 := wdk 48 rfl
theorem wd_49 : (Cond.instanceMethod ⟨"java/lang/StringBuilder", "append", "(Ljava/lang/String;)Ljava/lang/StringBuilder;"⟩) ∈ tables_1 := wdk 49 rfl
theorem wd_50 : (Cond.selects "java/lang/StringBuilder" ⟨"java/lang/StringBuilder", "append", "(Ljava/lang/String;)Ljava/lang/StringBuilder;"⟩ ⟨"java/lang/StringBuilder", "append", "(Ljava/lang/String;)Ljava/lang/StringBuilder;"⟩) ∈ tables_1 := wdk 50 rfl
theorem wd_51 : (Cond.code ⟨"java/lang/StringBuilder", "append", "(Ljava/lang/String;)Ljava/lang/StringBuilder;"⟩ jdk_67_method_7_code 2 (Option.some (FieldType.object "java/lang/StringBuilder"))) ∈ tables_1 := wdk 51 rfl
theorem wd_52 : (Cond.methodLink "java/lang/StringBuilder" 29 ⟨"java/lang/AbstractStringBuilder", "append", "(Ljava/lang/String;)Ljava/lang/AbstractStringBuilder;"⟩) ∈ tables_1 := wdk 52 rfl
theorem wd_53 : (Cond.instanceMethod ⟨"java/lang/AbstractStringBuilder", "append", "(Ljava/lang/String;)Ljava/lang/AbstractStringBuilder;"⟩) ∈ tables_1 := wdk 53 rfl
theorem wd_54 : (Cond.superclass "java/lang/StringBuilder" "java/lang/AbstractStringBuilder") ∈ tables_1 := wdk 54 rfl
theorem wd_55 : (Cond.declares ⟨"java/lang/AbstractStringBuilder", "append", "(Ljava/lang/String;)Ljava/lang/AbstractStringBuilder;"⟩) ∈ tables_1 := wdk 55 rfl
theorem wd_56 : (Cond.code ⟨"java/lang/AbstractStringBuilder", "append", "(Ljava/lang/String;)Ljava/lang/AbstractStringBuilder;"⟩ jdk_68_method_22_code 3 (Option.some (FieldType.object "java/lang/AbstractStringBuilder"))) ∈ tables_1 := wdk 56 rfl
theorem wd_57 : (Cond.methodLink "java/lang/AbstractStringBuilder" 32 ⟨"java/lang/String", "length", "()I"⟩) ∈ tables_1 := wdk 57 rfl
theorem wd_58 : (Cond.declares ⟨"java/lang/String", "length", "()I"⟩) ∈ tables_1 := wdk 58 rfl
theorem wd_59 : (Cond.instanceMethod ⟨"java/lang/String", "length", "()I"⟩) ∈ tables_1 := wdk 59 rfl
theorem wd_60 : (Cond.selects "java/lang/String" ⟨"java/lang/String", "length", "()I"⟩ ⟨"java/lang/String", "length", "()I"⟩) ∈ tables_1 := wdk 60 rfl
theorem wd_61 : (Cond.code ⟨"java/lang/String", "length", "()I"⟩ jdk_42_method_54_code 1 (Option.some FieldType.int)) ∈ tables_1 := wdk 61 rfl
theorem wd_62 : (Cond.methodLink "java/lang/String" 335 ⟨"java/lang/String", "coder", "()B"⟩) ∈ tables_1 := wdk 62 rfl
theorem wd_63 : (Cond.declares ⟨"java/lang/String", "coder", "()B"⟩) ∈ tables_1 := wdk 63 rfl
theorem wd_64 : (Cond.instanceMethod ⟨"java/lang/String", "coder", "()B"⟩) ∈ tables_1 := wdk 64 rfl
theorem wd_65 : (Cond.selects "java/lang/String" ⟨"java/lang/String", "coder", "()B"⟩ ⟨"java/lang/String", "coder", "()B"⟩) ∈ tables_1 := wdk 65 rfl
theorem wd_66 : (Cond.code ⟨"java/lang/String", "coder", "()B"⟩ jdk_42_method_152_code 1 (Option.some FieldType.byte)) ∈ tables_1 := wdk 66 rfl
theorem wd_67 : (Cond.fieldLink "java/lang/String" 38 "java/lang/String" "COMPACT_STRINGS" "Z") ∈ tables_1 := wdk 67 rfl
theorem wd_68 : (Cond.fieldLink "java/lang/AbstractStringBuilder" 79 "java/lang/AbstractStringBuilder" "count" "I") ∈ tables_1 := wdk 68 rfl
theorem wd_69 : (Cond.lays "java/lang/StringBuilder" "java/lang/AbstractStringBuilder" "count" "I") ∈ tables_1 := wdk 69 rfl
theorem wd_70 : (Cond.methodLink "java/lang/AbstractStringBuilder" 100 ⟨"java/lang/AbstractStringBuilder", "ensureCapacityInternal", "(I)V"⟩) ∈ tables_1 := wdk 70 rfl
theorem wd_71 : (Cond.instanceMethod ⟨"java/lang/AbstractStringBuilder", "ensureCapacityInternal", "(I)V"⟩) ∈ tables_1 := wdk 71 rfl
theorem wd_72 : (Cond.privateMethod ⟨"java/lang/AbstractStringBuilder", "ensureCapacityInternal", "(I)V"⟩) ∈ tables_1 := wdk 72 rfl
theorem wd_73 : (Cond.selects "java/lang/StringBuilder" ⟨"java/lang/AbstractStringBuilder", "ensureCapacityInternal", "(I)V"⟩ ⟨"java/lang/AbstractStringBuilder", "ensureCapacityInternal", "(I)V"⟩) ∈ tables_1 := wdk 73 rfl
theorem wd_74 : (Cond.code ⟨"java/lang/AbstractStringBuilder", "ensureCapacityInternal", "(I)V"⟩ jdk_68_method_9_code 3 (Option.none : Option FieldType)) ∈ tables_1 := wdk 74 rfl
theorem wd_75 : (Cond.methodLink "java/lang/AbstractStringBuilder" 208 ⟨"java/lang/AbstractStringBuilder", "putStringAt", "(ILjava/lang/String;)V"⟩) ∈ tables_1 := wdk 75 rfl
theorem wd_76 : (Cond.instanceMethod ⟨"java/lang/AbstractStringBuilder", "putStringAt", "(ILjava/lang/String;)V"⟩) ∈ tables_1 := wdk 76 rfl
theorem wd_77 : (Cond.privateMethod ⟨"java/lang/AbstractStringBuilder", "putStringAt", "(ILjava/lang/String;)V"⟩) ∈ tables_1 := wdk 77 rfl
theorem wd_78 : (Cond.selects "java/lang/StringBuilder" ⟨"java/lang/AbstractStringBuilder", "putStringAt", "(ILjava/lang/String;)V"⟩ ⟨"java/lang/AbstractStringBuilder", "putStringAt", "(ILjava/lang/String;)V"⟩) ∈ tables_1 := wdk 78 rfl
theorem wd_79 : (Cond.code ⟨"java/lang/AbstractStringBuilder", "putStringAt", "(ILjava/lang/String;)V"⟩ jdk_68_method_73_code 3 (Option.none : Option FieldType)) ∈ tables_1 := wdk 79 rfl
theorem wd_80 : (Cond.methodLink "java/lang/AbstractStringBuilder" 397 ⟨"java/lang/AbstractStringBuilder", "inflateIfNeededFor", "(Ljava/lang/String;)V"⟩) ∈ tables_1 := wdk 80 rfl
theorem wd_81 : (Cond.instanceMethod ⟨"java/lang/AbstractStringBuilder", "inflateIfNeededFor", "(Ljava/lang/String;)V"⟩) ∈ tables_1 := wdk 81 rfl
theorem wd_82 : (Cond.privateMethod ⟨"java/lang/AbstractStringBuilder", "inflateIfNeededFor", "(Ljava/lang/String;)V"⟩) ∈ tables_1 := wdk 82 rfl
theorem wd_83 : (Cond.selects "java/lang/StringBuilder" ⟨"java/lang/AbstractStringBuilder", "inflateIfNeededFor", "(Ljava/lang/String;)V"⟩ ⟨"java/lang/AbstractStringBuilder", "inflateIfNeededFor", "(Ljava/lang/String;)V"⟩) ∈ tables_1 := wdk 83 rfl
theorem wd_84 : (Cond.code ⟨"java/lang/AbstractStringBuilder", "inflateIfNeededFor", "(Ljava/lang/String;)V"⟩ jdk_68_method_71_code 2 (Option.none : Option FieldType)) ∈ tables_1 := wdk 84 rfl
theorem wd_85 : (Cond.methodLink "java/lang/AbstractStringBuilder" 40 ⟨"java/lang/String", "coder", "()B"⟩) ∈ tables_1 := wdk 85 rfl
theorem wd_86 : (Cond.methodLink "java/lang/AbstractStringBuilder" 399 ⟨"java/lang/String", "getBytes", "([BIB)V"⟩) ∈ tables_1 := wdk 86 rfl
theorem wd_87 : (Cond.declares ⟨"java/lang/String", "getBytes", "([BIB)V"⟩) ∈ tables_1 := wdk 87 rfl
theorem wd_88 : (Cond.instanceMethod ⟨"java/lang/String", "getBytes", "([BIB)V"⟩) ∈ tables_1 := wdk 88 rfl
theorem wd_89 : (Cond.selects "java/lang/String" ⟨"java/lang/String", "getBytes", "([BIB)V"⟩ ⟨"java/lang/String", "getBytes", "([BIB)V"⟩) ∈ tables_1 := wdk 89 rfl
theorem wd_90 : (Cond.code ⟨"java/lang/String", "getBytes", "([BIB)V"⟩ jdk_42_method_147_code 4 (Option.none : Option FieldType)) ∈ tables_1 := wdk 90 rfl
theorem wd_91 : (Cond.methodLink "java/lang/String" 212 ⟨"java/lang/System", "arraycopy", "(Ljava/lang/Object;ILjava/lang/Object;II)V"⟩) ∈ tables_1 := wdk 91 rfl
theorem wd_92 : (Cond.static ⟨"java/lang/System", "arraycopy", "(Ljava/lang/Object;ILjava/lang/Object;II)V"⟩) ∈ tables_1 := wdk 92 rfl
theorem wd_93 : (Cond.initialized "java/lang/System") ∈ tables_1 := wdk 93 rfl
theorem wd_94 : (Cond.native ⟨"java/lang/System", "arraycopy", "(Ljava/lang/Object;ILjava/lang/Object;II)V"⟩) ∈ tables_1 := wdk 94 rfl
theorem wd_95 : (Cond.stringLink "com/example/yusen/yusen/figures/Checks" 22 " must be above zero") ∈ tables_1 := wdk 95 rfl
theorem wd_96 : (Cond.methodLink "java/lang/AbstractStringBuilder" 104 ⟨"java/lang/AbstractStringBuilder", "newCapacity", "(I)I"⟩) ∈ tables_1 := wdk 96 rfl
theorem wd_97 : (Cond.instanceMethod ⟨"java/lang/AbstractStringBuilder", "newCapacity", "(I)I"⟩) ∈ tables_1 := wdk 97 rfl
theorem wd_98 : (Cond.privateMethod ⟨"java/lang/AbstractStringBuilder", "newCapacity", "(I)I"⟩) ∈ tables_1 := wdk 98 rfl
theorem wd_99 : (Cond.selects "java/lang/StringBuilder" ⟨"java/lang/AbstractStringBuilder", "newCapacity", "(I)I"⟩ ⟨"java/lang/AbstractStringBuilder", "newCapacity", "(I)I"⟩) ∈ tables_1 := wdk 99 rfl
theorem wd_100 : (Cond.code ⟨"java/lang/AbstractStringBuilder", "newCapacity", "(I)I"⟩ jdk_68_method_10_code 6 (Option.some FieldType.int)) ∈ tables_1 := wdk 100 rfl
theorem wd_101 : (Cond.methodLink "java/lang/AbstractStringBuilder" 114 ⟨"jdk/internal/util/ArraysSupport", "newLength", "(III)I"⟩) ∈ tables_1 := wdk 101 rfl
theorem wd_102 : (Cond.static ⟨"jdk/internal/util/ArraysSupport", "newLength", "(III)I"⟩) ∈ tables_1 := wdk 102 rfl
theorem wd_103 : (Cond.initialized "jdk/internal/util/ArraysSupport") ∈ tables_1 := wdk 103 rfl
theorem wd_104 : (Cond.code ⟨"jdk/internal/util/ArraysSupport", "newLength", "(III)I"⟩ jdk_48_method_27_code 4 (Option.some FieldType.int)) ∈ tables_1 := wdk 104 rfl
theorem wd_105 : (Cond.methodLink "jdk/internal/util/ArraysSupport" 194 ⟨"java/lang/Math", "max", "(II)I"⟩) ∈ tables_1 := wdk 105 rfl
theorem wd_106 : (Cond.static ⟨"java/lang/Math", "max", "(II)I"⟩) ∈ tables_1 := wdk 106 rfl
theorem wd_107 : (Cond.initialized "java/lang/Math") ∈ tables_1 := wdk 107 rfl
theorem wd_108 : (Cond.code ⟨"java/lang/Math", "max", "(II)I"⟩ jdk_29_method_65_code 2 (Option.some FieldType.int)) ∈ tables_1 := wdk 108 rfl
theorem wd_109 : (Cond.constant "jdk/internal/util/ArraysSupport" 200 (2147483639 : Int32)) ∈ tables_1 := wdk 109 rfl
theorem wd_110 : (Cond.constant "java/lang/AbstractStringBuilder" 39 (2147483647 : Int32)) ∈ tables_1 := wdk 110 rfl
theorem wd_111 : (Cond.methodLink "java/lang/AbstractStringBuilder" 108 ⟨"java/util/Arrays", "copyOf", "([BI)[B"⟩) ∈ tables_1 := wdk 111 rfl
theorem wd_112 : (Cond.static ⟨"java/util/Arrays", "copyOf", "([BI)[B"⟩) ∈ tables_1 := wdk 112 rfl
theorem wd_113 : (Cond.initialized "java/util/Arrays") ∈ tables_1 := wdk 113 rfl
theorem wd_114 : (Cond.code ⟨"java/util/Arrays", "copyOf", "([BI)[B"⟩ jdk_65_method_121_code 3 (Option.some (FieldType.array FieldType.byte))) ∈ tables_1 := wdk 114 rfl
theorem wd_115 : (Cond.methodLink "java/util/Arrays" 304 ⟨"java/lang/Math", "min", "(II)I"⟩) ∈ tables_1 := wdk 115 rfl
theorem wd_116 : (Cond.static ⟨"java/lang/Math", "min", "(II)I"⟩) ∈ tables_1 := wdk 116 rfl
theorem wd_117 : (Cond.code ⟨"java/lang/Math", "min", "(II)I"⟩ jdk_29_method_69_code 2 (Option.some FieldType.int)) ∈ tables_1 := wdk 117 rfl
theorem wd_118 : (Cond.methodLink "java/util/Arrays" 150 ⟨"java/lang/System", "arraycopy", "(Ljava/lang/Object;ILjava/lang/Object;II)V"⟩) ∈ tables_1 := wdk 118 rfl
theorem wd_119 : (Cond.methodLink "com/example/yusen/yusen/figures/Checks" 24 ⟨"java/lang/StringBuilder", "toString", "()Ljava/lang/String;"⟩) ∈ tables_1 := wdk 119 rfl
theorem wd_120 : (Cond.declares ⟨"java/lang/StringBuilder", "toString", "()Ljava/lang/String;"⟩) ∈ tables_1 := wdk 120 rfl
theorem wd_121 : (Cond.instanceMethod ⟨"java/lang/StringBuilder", "toString", "()Ljava/lang/String;"⟩) ∈ tables_1 := wdk 121 rfl
theorem wd_122 : (Cond.selects "java/lang/StringBuilder" ⟨"java/lang/StringBuilder", "toString", "()Ljava/lang/String;"⟩ ⟨"java/lang/StringBuilder", "toString", "()Ljava/lang/String;"⟩) ∈ tables_1 := wdk 122 rfl
theorem wd_123 : (Cond.code ⟨"java/lang/StringBuilder", "toString", "()Ljava/lang/String;"⟩ jdk_67_method_42_code 1 (Option.some (FieldType.object "java/lang/String"))) ∈ tables_1 := wdk 123 rfl
theorem wd_124 : (Cond.classLink "java/lang/StringBuilder" 18 "java/lang/String") ∈ tables_1 := wdk 124 rfl
theorem wd_125 : (Cond.methodLink "java/lang/StringBuilder" 137 ⟨"java/lang/String", "<init>", "(Ljava/lang/StringBuilder;)V"⟩) ∈ tables_1 := wdk 125 rfl
theorem wd_126 : (Cond.instanceMethod ⟨"java/lang/String", "<init>", "(Ljava/lang/StringBuilder;)V"⟩) ∈ tables_1 := wdk 126 rfl
theorem wd_127 : (Cond.code ⟨"java/lang/String", "<init>", "(Ljava/lang/StringBuilder;)V"⟩ jdk_42_method_53_code 2 (Option.none : Option FieldType)) ∈ tables_1 := wdk 127 rfl
theorem wd_128 : (Cond.methodLink "java/lang/String" 489 ⟨"java/lang/String", "<init>", "(Ljava/lang/AbstractStringBuilder;Ljava/lang/Void;)V"⟩) ∈ tables_1 := wdk 128 rfl
theorem wd_129 : (Cond.instanceMethod ⟨"java/lang/String", "<init>", "(Ljava/lang/AbstractStringBuilder;Ljava/lang/Void;)V"⟩) ∈ tables_1 := wdk 129 rfl
theorem wd_130 : (Cond.code ⟨"java/lang/String", "<init>", "(Ljava/lang/AbstractStringBuilder;Ljava/lang/Void;)V"⟩ jdk_42_method_150_code 5 (Option.none : Option FieldType)) ∈ tables_1 := wdk 130 rfl
theorem wd_131 : (Cond.methodLink "java/lang/String" 552 ⟨"java/lang/AbstractStringBuilder", "getValue", "()[B"⟩) ∈ tables_1 := wdk 131 rfl
theorem wd_132 : (Cond.declares ⟨"java/lang/AbstractStringBuilder", "getValue", "()[B"⟩) ∈ tables_1 := wdk 132 rfl
theorem wd_133 : (Cond.instanceMethod ⟨"java/lang/AbstractStringBuilder", "getValue", "()[B"⟩) ∈ tables_1 := wdk 133 rfl
theorem wd_134 : (Cond.selects "java/lang/StringBuilder" ⟨"java/lang/AbstractStringBuilder", "getValue", "()[B"⟩ ⟨"java/lang/AbstractStringBuilder", "getValue", "()[B"⟩) ∈ tables_1 := wdk 134 rfl
theorem wd_135 : (Cond.code ⟨"java/lang/AbstractStringBuilder", "getValue", "()[B"⟩ jdk_68_method_64_code 1 (Option.some (FieldType.array FieldType.byte))) ∈ tables_1 := wdk 135 rfl
theorem wd_136 : (Cond.methodLink "java/lang/String" 549 ⟨"java/lang/AbstractStringBuilder", "length", "()I"⟩) ∈ tables_1 := wdk 136 rfl
theorem wd_137 : (Cond.declares ⟨"java/lang/AbstractStringBuilder", "length", "()I"⟩) ∈ tables_1 := wdk 137 rfl
theorem wd_138 : (Cond.instanceMethod ⟨"java/lang/AbstractStringBuilder", "length", "()I"⟩) ∈ tables_1 := wdk 138 rfl
theorem wd_139 : (Cond.selects "java/lang/StringBuilder" ⟨"java/lang/AbstractStringBuilder", "length", "()I"⟩ ⟨"java/lang/StringBuilder", "length", "()I"⟩) ∈ tables_1 := wdk 139 rfl
theorem wd_140 : (Cond.instanceMethod ⟨"java/lang/StringBuilder", "length", "()I"⟩) ∈ tables_1 := wdk 140 rfl
theorem wd_141 : (Cond.code ⟨"java/lang/StringBuilder", "length", "()I"⟩ jdk_67_method_93_code 1 (Option.some FieldType.int)) ∈ tables_1 := wdk 141 rfl
theorem wd_142 : (Cond.methodLink "java/lang/StringBuilder" 343 ⟨"java/lang/AbstractStringBuilder", "length", "()I"⟩) ∈ tables_1 := wdk 142 rfl
theorem wd_143 : (Cond.code ⟨"java/lang/AbstractStringBuilder", "length", "()I"⟩ jdk_68_method_6_code 1 (Option.some FieldType.int)) ∈ tables_1 := wdk 143 rfl
theorem wd_144 : (Cond.methodLink "java/lang/String" 1047 ⟨"java/lang/AbstractStringBuilder", "isLatin1", "()Z"⟩) ∈ tables_1 := wdk 144 rfl
theorem wd_145 : (Cond.declares ⟨"java/lang/AbstractStringBuilder", "isLatin1", "()Z"⟩) ∈ tables_1 := wdk 145 rfl
theorem wd_146 : (Cond.instanceMethod ⟨"java/lang/AbstractStringBuilder", "isLatin1", "()Z"⟩) ∈ tables_1 := wdk 146 rfl
theorem wd_147 : (Cond.selects "java/lang/StringBuilder" ⟨"java/lang/AbstractStringBuilder", "isLatin1", "()Z"⟩ ⟨"java/lang/AbstractStringBuilder", "isLatin1", "()Z"⟩) ∈ tables_1 := wdk 147 rfl
theorem wd_148 : (Cond.code ⟨"java/lang/AbstractStringBuilder", "isLatin1", "()Z"⟩ jdk_68_method_68_code 1 (Option.some FieldType.boolean)) ∈ tables_1 := wdk 148 rfl
theorem wd_149 : (Cond.methodLink "java/lang/String" 54 ⟨"java/util/Arrays", "copyOfRange", "([BII)[B"⟩) ∈ tables_1 := wdk 149 rfl
theorem wd_150 : (Cond.static ⟨"java/util/Arrays", "copyOfRange", "([BII)[B"⟩) ∈ tables_1 := wdk 150 rfl
theorem wd_151 : (Cond.code ⟨"java/util/Arrays", "copyOfRange", "([BII)[B"⟩ jdk_65_method_132_code 3 (Option.some (FieldType.array FieldType.byte))) ∈ tables_1 := wdk 151 rfl
theorem wd_152 : (Cond.methodLink "java/util/Arrays" 339 ⟨"java/util/Arrays", "copyOfRangeByte", "([BII)[B"⟩) ∈ tables_1 := wdk 152 rfl
theorem wd_153 : (Cond.static ⟨"java/util/Arrays", "copyOfRangeByte", "([BII)[B"⟩) ∈ tables_1 := wdk 153 rfl
theorem wd_154 : (Cond.code ⟨"java/util/Arrays", "copyOfRangeByte", "([BII)[B"⟩ jdk_65_method_133_code 5 (Option.some (FieldType.array FieldType.byte))) ∈ tables_1 := wdk 154 rfl
theorem wd_155 : (Cond.methodLink "java/util/Arrays" 343 ⟨"java/util/Arrays", "checkLength", "(II)V"⟩) ∈ tables_1 := wdk 155 rfl
theorem wd_156 : (Cond.static ⟨"java/util/Arrays", "checkLength", "(II)V"⟩) ∈ tables_1 := wdk 156 rfl
theorem wd_157 : (Cond.code ⟨"java/util/Arrays", "checkLength", "(II)V"⟩ jdk_65_method_131_code 2 (Option.none : Option FieldType)) ∈ tables_1 := wdk 157 rfl
theorem wd_158 : (Cond.methodLink "com/example/yusen/yusen/figures/Checks" 28 ⟨"java/lang/IllegalArgumentException", "<init>", "(Ljava/lang/String;)V"⟩) ∈ tables_1 := wdk 158 rfl
theorem wd_159 : (Cond.instanceMethod ⟨"java/lang/IllegalArgumentException", "<init>", "(Ljava/lang/String;)V"⟩) ∈ tables_1 := wdk 159 rfl
theorem wd_160 : (Cond.code ⟨"java/lang/IllegalArgumentException", "<init>", "(Ljava/lang/String;)V"⟩ jdk_57_method_2_code 2 (Option.none : Option FieldType)) ∈ tables_1 := wdk 160 rfl
theorem wd_161 : (Cond.methodLink "java/lang/IllegalArgumentException" 7 ⟨"java/lang/RuntimeException", "<init>", "(Ljava/lang/String;)V"⟩) ∈ tables_1 := wdk 161 rfl
theorem wd_162 : (Cond.instanceMethod ⟨"java/lang/RuntimeException", "<init>", "(Ljava/lang/String;)V"⟩) ∈ tables_1 := wdk 162 rfl
theorem wd_165 : (Cond.initialized "java/lang/RuntimeException") ∈ tables_1 := wdk 165 rfl
theorem wd_166 : (Cond.code ⟨"java/lang/RuntimeException", "<init>", "(Ljava/lang/String;)V"⟩ jdk_58_method_2_code 2 (Option.none : Option FieldType)) ∈ tables_1 := wdk 166 rfl
theorem wd_167 : (Cond.methodLink "java/lang/RuntimeException" 7 ⟨"java/lang/Exception", "<init>", "(Ljava/lang/String;)V"⟩) ∈ tables_1 := wdk 167 rfl
theorem wd_168 : (Cond.instanceMethod ⟨"java/lang/Exception", "<init>", "(Ljava/lang/String;)V"⟩) ∈ tables_1 := wdk 168 rfl
theorem wd_171 : (Cond.initialized "java/lang/Exception") ∈ tables_1 := wdk 171 rfl
theorem wd_172 : (Cond.code ⟨"java/lang/Exception", "<init>", "(Ljava/lang/String;)V"⟩ jdk_59_method_2_code 2 (Option.none : Option FieldType)) ∈ tables_1 := wdk 172 rfl
theorem wd_173 : (Cond.methodLink "java/lang/Exception" 7 ⟨"java/lang/Throwable", "<init>", "(Ljava/lang/String;)V"⟩) ∈ tables_1 := wdk 173 rfl
theorem wd_174 : (Cond.instanceMethod ⟨"java/lang/Throwable", "<init>", "(Ljava/lang/String;)V"⟩) ∈ tables_1 := wdk 174 rfl
theorem wd_177 : (Cond.initialized "java/lang/Throwable") ∈ tables_1 := wdk 177 rfl
theorem wd_178 : (Cond.code ⟨"java/lang/Throwable", "<init>", "(Ljava/lang/String;)V"⟩ jdk_78_method_2_code 2 (Option.none : Option FieldType)) ∈ tables_1 := wdk 178 rfl
theorem wd_179 : (Cond.methodLink "java/lang/Throwable" 1 ⟨"java/lang/Object", "<init>", "()V"⟩) ∈ tables_1 := wdk 179 rfl
theorem wd_180 : (Cond.fieldLink "java/lang/Throwable" 7 "java/lang/Throwable" "cause" "Ljava/lang/Throwable;") ∈ tables_1 := wdk 180 rfl
theorem wd_181 : (Cond.lays "java/lang/IllegalArgumentException" "java/lang/Throwable" "cause" "Ljava/lang/Throwable;") ∈ tables_1 := wdk 181 rfl
theorem wd_182 : (Cond.fieldLink "java/lang/Throwable" 13 "java/lang/Throwable" "UNASSIGNED_STACK" "[Ljava/lang/StackTraceElement;") ∈ tables_1 := wdk 182 rfl
theorem wd_183 : (Cond.fieldLink "java/lang/Throwable" 17 "java/lang/Throwable" "stackTrace" "[Ljava/lang/StackTraceElement;") ∈ tables_1 := wdk 183 rfl
theorem wd_184 : (Cond.lays "java/lang/IllegalArgumentException" "java/lang/Throwable" "stackTrace" "[Ljava/lang/StackTraceElement;") ∈ tables_1 := wdk 184 rfl
theorem wd_185 : (Cond.fieldLink "java/lang/Throwable" 20 "java/lang/Throwable" "SUPPRESSED_SENTINEL" "Ljava/util/List;") ∈ tables_1 := wdk 185 rfl
theorem wd_186 : (Cond.fieldLink "java/lang/Throwable" 24 "java/lang/Throwable" "suppressedExceptions" "Ljava/util/List;") ∈ tables_1 := wdk 186 rfl
theorem wd_187 : (Cond.lays "java/lang/IllegalArgumentException" "java/lang/Throwable" "suppressedExceptions" "Ljava/util/List;") ∈ tables_1 := wdk 187 rfl
theorem wd_211 : (Cond.lays "java/lang/IllegalArgumentException" "java/lang/Throwable" "detailMessage" "Ljava/lang/String;") ∈ tables_1 := wdk 211 rfl
theorem wd_212 : (Cond.lays "java/lang/IllegalArgumentException" "java/lang/Throwable" "backtrace" "Ljava/lang/Object;") ∈ tables_1 := wdk 212 rfl
theorem wd_213 : (Cond.lays "java/lang/IllegalArgumentException" "java/lang/Throwable" "depth" "I") ∈ tables_1 := wdk 213 rfl
theorem wd_215 : (Cond.fieldLink "java/lang/Throwable" 31 "java/lang/Throwable" "detailMessage" "Ljava/lang/String;") ∈ tables_1 := wdk 215 rfl
theorem wd_216 : (Cond.methodLink "com/example/yusen/yusen/figures/ChecksNotPositivePinLaw" 22 ⟨"java/lang/IllegalArgumentException", "getMessage", "()Ljava/lang/String;"⟩) ∈ tables_1 := wdk 216 rfl
theorem wd_217 : (Cond.sameMethod "java/lang/IllegalArgumentException" "java/lang/Throwable" "getMessage" "()Ljava/lang/String;") ∈ tables_1 := wdk 217 rfl
theorem wd_218 : (Cond.declares ⟨"java/lang/Throwable", "getMessage", "()Ljava/lang/String;"⟩) ∈ tables_1 := wdk 218 rfl
theorem wd_219 : (Cond.instanceMethod ⟨"java/lang/Throwable", "getMessage", "()Ljava/lang/String;"⟩) ∈ tables_1 := wdk 219 rfl
theorem wd_220 : (Cond.selects "java/lang/IllegalArgumentException" ⟨"java/lang/IllegalArgumentException", "getMessage", "()Ljava/lang/String;"⟩ ⟨"java/lang/Throwable", "getMessage", "()Ljava/lang/String;"⟩) ∈ tables_1 := wdk 220 rfl
theorem wd_221 : (Cond.code ⟨"java/lang/Throwable", "getMessage", "()Ljava/lang/String;"⟩ jdk_78_method_6_code 1 (Option.some (FieldType.object "java/lang/String"))) ∈ tables_1 := wdk 221 rfl
theorem wd_222 : (Cond.methodLink "com/example/yusen/yusen/figures/ChecksNotPositivePinLaw" 28 ⟨"com/example/yusen/yusen/figures/ChecksNotPositivePinLaw", "expected", "(ICCC)Ljava/lang/String;"⟩) ∈ tables_1 := wdk 222 rfl
theorem wd_223 : (Cond.static ⟨"com/example/yusen/yusen/figures/ChecksNotPositivePinLaw", "expected", "(ICCC)Ljava/lang/String;"⟩) ∈ tables_1 := wdk 223 rfl
theorem wd_224 : (Cond.initialized "com/example/yusen/yusen/figures/ChecksNotPositivePinLaw") ∈ tables_1 := wdk 224 rfl
theorem wd_225 : (Cond.code ⟨"com/example/yusen/yusen/figures/ChecksNotPositivePinLaw", "expected", "(ICCC)Ljava/lang/String;"⟩ method_3_code 4 (Option.some (FieldType.object "java/lang/String"))) ∈ tables_1 := wdk 225 rfl
theorem wd_226 : (Cond.stringLink "com/example/yusen/yusen/figures/ChecksNotPositivePinLaw" 42 " must be above zero") ∈ tables_1 := wdk 226 rfl
theorem wd_227 : (Cond.methodLink "com/example/yusen/yusen/figures/ChecksNotPositivePinLaw" 34 ⟨"java/lang/String", "equals", "(Ljava/lang/Object;)Z"⟩) ∈ tables_1 := wdk 227 rfl
theorem wd_228 : (Cond.declares ⟨"java/lang/String", "equals", "(Ljava/lang/Object;)Z"⟩) ∈ tables_1 := wdk 228 rfl
theorem wd_229 : (Cond.instanceMethod ⟨"java/lang/String", "equals", "(Ljava/lang/Object;)Z"⟩) ∈ tables_1 := wdk 229 rfl
theorem wd_230 : (Cond.selects "java/lang/String" ⟨"java/lang/String", "equals", "(Ljava/lang/Object;)Z"⟩ ⟨"java/lang/String", "equals", "(Ljava/lang/Object;)Z"⟩) ∈ tables_1 := wdk 230 rfl
theorem wd_232 : (Cond.classLink "java/lang/String" 10 "java/lang/String") ∈ tables_1 := wdk 232 rfl
theorem wd_235 : (Cond.initialized "java/lang/StringLatin1") ∈ tables_1 := wdk 235 rfl
theorem wd_237 : (Cond.methodLink "com/example/yusen/yusen/figures/ChecksNotPositivePinLaw" 38 ⟨"java/lang/IllegalArgumentException", "getCause", "()Ljava/lang/Throwable;"⟩) ∈ tables_1 := wdk 237 rfl
theorem wd_238 : (Cond.sameMethod "java/lang/IllegalArgumentException" "java/lang/Throwable" "getCause" "()Ljava/lang/Throwable;") ∈ tables_1 := wdk 238 rfl
theorem wd_239 : (Cond.declares ⟨"java/lang/Throwable", "getCause", "()Ljava/lang/Throwable;"⟩) ∈ tables_1 := wdk 239 rfl
theorem wd_240 : (Cond.instanceMethod ⟨"java/lang/Throwable", "getCause", "()Ljava/lang/Throwable;"⟩) ∈ tables_1 := wdk 240 rfl
theorem wd_241 : (Cond.selects "java/lang/IllegalArgumentException" ⟨"java/lang/IllegalArgumentException", "getCause", "()Ljava/lang/Throwable;"⟩ ⟨"java/lang/Throwable", "getCause", "()Ljava/lang/Throwable;"⟩) ∈ tables_1 := wdk 241 rfl
theorem wd_242 : (Cond.codeSync ⟨"java/lang/Throwable", "getCause", "()Ljava/lang/Throwable;"⟩ jdk_78_method_8_code 1 (Option.some (FieldType.object "java/lang/Throwable"))) ∈ tables_1 := wdk 242 rfl
theorem wd_243 : (Cond.methodLink "java/lang/String" 177 ⟨"java/lang/StringUTF16", "compress", "([CII)[B"⟩) ∈ tables_1 := wdk 243 rfl
theorem wd_244 : (Cond.static ⟨"java/lang/StringUTF16", "compress", "([CII)[B"⟩) ∈ tables_1 := wdk 244 rfl
theorem wd_245 : (Cond.initialized "java/lang/StringUTF16") ∈ tables_1 := wdk 245 rfl
theorem wd_246 : (Cond.code ⟨"java/lang/StringUTF16", "compress", "([CII)[B"⟩ jdk_52_method_16_code 6 (Option.some (FieldType.array FieldType.byte))) ∈ tables_1 := wdk 246 rfl
theorem wd_247 : (Cond.methodLink "java/lang/StringUTF16" 115 ⟨"java/lang/StringUTF16", "compress", "([CI[BII)I"⟩) ∈ tables_1 := wdk 247 rfl
theorem wd_248 : (Cond.static ⟨"java/lang/StringUTF16", "compress", "([CI[BII)I"⟩) ∈ tables_1 := wdk 248 rfl
theorem wd_249 : (Cond.code ⟨"java/lang/StringUTF16", "compress", "([CI[BII)I"⟩ jdk_52_method_21_code 7 (Option.some FieldType.int)) ∈ tables_1 := wdk 249 rfl
theorem wd_250 : (Cond.methodLink "java/lang/String" 47 ⟨"java/lang/StringUTF16", "coderFromArrayLen", "([BI)B"⟩) ∈ tables_1 := wdk 250 rfl
theorem wd_251 : (Cond.static ⟨"java/lang/StringUTF16", "coderFromArrayLen", "([BI)B"⟩) ∈ tables_1 := wdk 251 rfl
theorem wd_252 : (Cond.code ⟨"java/lang/StringUTF16", "coderFromArrayLen", "([BI)B"⟩ jdk_52_method_15_code 2 (Option.some FieldType.byte)) ∈ tables_1 := wdk 252 rfl
theorem wd_253 : (Cond.methodLink "java/lang/StringUTF16" 119 ⟨"java/lang/StringUTF16", "toBytes", "([CII)[B"⟩) ∈ tables_1 := wdk 253 rfl
theorem wd_254 : (Cond.static ⟨"java/lang/StringUTF16", "toBytes", "([CII)[B"⟩) ∈ tables_1 := wdk 254 rfl
theorem wd_255 : (Cond.code ⟨"java/lang/StringUTF16", "toBytes", "([CII)[B"⟩ jdk_52_method_14_code 5 (Option.some (FieldType.array FieldType.byte))) ∈ tables_1 := wdk 255 rfl
theorem wd_256 : (Cond.methodLink "java/lang/StringUTF16" 107 ⟨"java/lang/StringUTF16", "newBytesFor", "(I)[B"⟩) ∈ tables_1 := wdk 256 rfl
theorem wd_257 : (Cond.static ⟨"java/lang/StringUTF16", "newBytesFor", "(I)[B"⟩) ∈ tables_1 := wdk 257 rfl
theorem wd_258 : (Cond.code ⟨"java/lang/StringUTF16", "newBytesFor", "(I)[B"⟩ jdk_52_method_2_code 1 (Option.some (FieldType.array FieldType.byte))) ∈ tables_1 := wdk 258 rfl
theorem wd_259 : (Cond.methodLink "java/lang/StringUTF16" 11 ⟨"java/lang/StringUTF16", "newBytesLength", "(I)I"⟩) ∈ tables_1 := wdk 259 rfl
theorem wd_260 : (Cond.static ⟨"java/lang/StringUTF16", "newBytesLength", "(I)I"⟩) ∈ tables_1 := wdk 260 rfl
theorem wd_261 : (Cond.code ⟨"java/lang/StringUTF16", "newBytesLength", "(I)I"⟩ jdk_52_method_3_code 1 (Option.some FieldType.int)) ∈ tables_1 := wdk 261 rfl
theorem wd_262 : (Cond.constant "java/lang/StringUTF16" 20 (1073741823 : Int32)) ∈ tables_1 := wdk 262 rfl
theorem wd_263 : (Cond.methodLink "java/lang/StringUTF16" 111 ⟨"java/lang/StringUTF16", "putChar", "([BII)V"⟩) ∈ tables_1 := wdk 263 rfl
theorem wd_264 : (Cond.static ⟨"java/lang/StringUTF16", "putChar", "([BII)V"⟩) ∈ tables_1 := wdk 264 rfl
theorem wd_265 : (Cond.code ⟨"java/lang/StringUTF16", "putChar", "([BII)V"⟩ jdk_52_method_4_code 3 (Option.none : Option FieldType)) ∈ tables_1 := wdk 265 rfl
theorem wd_266 : (Cond.fieldLink "java/lang/StringUTF16" 44 "java/lang/StringUTF16" "$assertionsDisabled" "Z") ∈ tables_1 := wdk 266 rfl
theorem wd_267 : (Cond.fieldLink "java/lang/StringUTF16" 59 "java/lang/StringUTF16" "HI_BYTE_SHIFT" "I") ∈ tables_1 := wdk 267 rfl
theorem wd_268 : (Cond.fieldLink "java/lang/StringUTF16" 63 "java/lang/StringUTF16" "LO_BYTE_SHIFT" "I") ∈ tables_1 := wdk 268 rfl
theorem wd_269 : (Cond.methodLink "java/lang/StringUTF16" 71 ⟨"java/lang/StringUTF16", "getChar", "([BI)C"⟩) ∈ tables_1 := wdk 269 rfl
theorem wd_270 : (Cond.static ⟨"java/lang/StringUTF16", "getChar", "([BI)C"⟩) ∈ tables_1 := wdk 270 rfl
theorem wd_271 : (Cond.code ⟨"java/lang/StringUTF16", "getChar", "([BI)C"⟩ jdk_52_method_5_code 2 (Option.some FieldType.char)) ∈ tables_1 := wdk 271 rfl
theorem wd_272 : (Cond.methodLink "java/lang/AbstractStringBuilder" 195 ⟨"java/lang/AbstractStringBuilder", "inflate", "()V"⟩) ∈ tables_1 := wdk 272 rfl
theorem wd_273 : (Cond.instanceMethod ⟨"java/lang/AbstractStringBuilder", "inflate", "()V"⟩) ∈ tables_1 := wdk 273 rfl
theorem wd_274 : (Cond.privateMethod ⟨"java/lang/AbstractStringBuilder", "inflate", "()V"⟩) ∈ tables_1 := wdk 274 rfl
theorem wd_275 : (Cond.selects "java/lang/StringBuilder" ⟨"java/lang/AbstractStringBuilder", "inflate", "()V"⟩ ⟨"java/lang/AbstractStringBuilder", "inflate", "()V"⟩) ∈ tables_1 := wdk 275 rfl
theorem wd_276 : (Cond.code ⟨"java/lang/AbstractStringBuilder", "inflate", "()V"⟩ jdk_68_method_11_code 2 (Option.none : Option FieldType)) ∈ tables_1 := wdk 276 rfl
theorem wd_277 : (Cond.methodLink "java/lang/AbstractStringBuilder" 83 ⟨"java/lang/AbstractStringBuilder", "isLatin1", "()Z"⟩) ∈ tables_1 := wdk 277 rfl
theorem wd_278 : (Cond.methodLink "java/lang/AbstractStringBuilder" 26 ⟨"java/lang/StringUTF16", "newBytesFor", "(I)[B"⟩) ∈ tables_1 := wdk 278 rfl
theorem wd_279 : (Cond.methodLink "java/lang/AbstractStringBuilder" 125 ⟨"java/lang/StringLatin1", "inflate", "([BI[BII)V"⟩) ∈ tables_1 := wdk 279 rfl
theorem wd_280 : (Cond.static ⟨"java/lang/StringLatin1", "inflate", "([BI[BII)V"⟩) ∈ tables_1 := wdk 280 rfl
theorem wd_281 : (Cond.code ⟨"java/lang/StringLatin1", "inflate", "([BI[BII)V"⟩ jdk_43_method_50_code 5 (Option.none : Option FieldType)) ∈ tables_1 := wdk 281 rfl
theorem wd_282 : (Cond.methodLink "java/lang/StringLatin1" 240 ⟨"java/lang/StringUTF16", "inflate", "([BI[BII)V"⟩) ∈ tables_1 := wdk 282 rfl
theorem wd_283 : (Cond.static ⟨"java/lang/StringUTF16", "inflate", "([BI[BII)V"⟩) ∈ tables_1 := wdk 283 rfl
theorem wd_284 : (Cond.code ⟨"java/lang/StringUTF16", "inflate", "([BI[BII)V"⟩ jdk_52_method_86_code 6 (Option.none : Option FieldType)) ∈ tables_1 := wdk 284 rfl
theorem wd_285 : (Cond.methodLink "java/lang/StringUTF16" 173 ⟨"java/lang/StringUTF16", "checkBoundsOffCount", "(II[B)V"⟩) ∈ tables_1 := wdk 285 rfl
theorem wd_286 : (Cond.static ⟨"java/lang/StringUTF16", "checkBoundsOffCount", "(II[B)V"⟩) ∈ tables_1 := wdk 286 rfl
theorem wd_287 : (Cond.code ⟨"java/lang/StringUTF16", "checkBoundsOffCount", "(II[B)V"⟩ jdk_52_method_94_code 3 (Option.none : Option FieldType)) ∈ tables_1 := wdk 287 rfl
theorem wd_288 : (Cond.methodLink "java/lang/StringUTF16" 48 ⟨"java/lang/StringUTF16", "length", "([B)I"⟩) ∈ tables_1 := wdk 288 rfl
theorem wd_289 : (Cond.static ⟨"java/lang/StringUTF16", "length", "([B)I"⟩) ∈ tables_1 := wdk 289 rfl
theorem wd_290 : (Cond.code ⟨"java/lang/StringUTF16", "length", "([B)I"⟩ jdk_52_method_6_code 1 (Option.some FieldType.int)) ∈ tables_1 := wdk 290 rfl
theorem wd_291 : (Cond.methodLink "java/lang/StringUTF16" 419 ⟨"java/lang/String", "checkBoundsOffCount", "(III)I"⟩) ∈ tables_1 := wdk 291 rfl
theorem wd_292 : (Cond.static ⟨"java/lang/String", "checkBoundsOffCount", "(III)I"⟩) ∈ tables_1 := wdk 292 rfl
theorem wd_293 : (Cond.code ⟨"java/lang/String", "checkBoundsOffCount", "(III)I"⟩ jdk_42_method_157_code 3 (Option.some FieldType.int)) ∈ tables_1 := wdk 293 rfl
theorem wd_294 : (Cond.fieldLink "java/lang/String" 1053 "jdk/internal/util/Preconditions" "SIOOBE_FORMATTER" "Ljava/util/function/BiFunction;") ∈ tables_1 := wdk 294 rfl
theorem wd_295 : (Cond.initialized "jdk/internal/util/Preconditions") ∈ tables_1 := wdk 295 rfl
theorem wd_296 : (Cond.methodLink "java/lang/String" 1065 ⟨"jdk/internal/util/Preconditions", "checkFromIndexSize", "(IIILjava/util/function/BiFunction;)I"⟩) ∈ tables_1 := wdk 296 rfl
theorem wd_297 : (Cond.static ⟨"jdk/internal/util/Preconditions", "checkFromIndexSize", "(IIILjava/util/function/BiFunction;)I"⟩) ∈ tables_1 := wdk 297 rfl
theorem wd_298 : (Cond.code ⟨"jdk/internal/util/Preconditions", "checkFromIndexSize", "(IIILjava/util/function/BiFunction;)I"⟩ jdk_41_method_13_code 4 (Option.some FieldType.int)) ∈ tables_1 := wdk 298 rfl
theorem wd_299 : (Cond.methodLink "java/lang/String" 106 ⟨"java/lang/StringLatin1", "inflate", "([BI[BII)V"⟩) ∈ tables_1 := wdk 299 rfl
theorem wd_300 : (Cond.fieldLink "java/lang/String" 1048 "java/lang/AbstractStringBuilder" "maybeLatin1" "Z") ∈ tables_1 := wdk 300 rfl
theorem wd_301 : (Cond.lays "java/lang/StringBuilder" "java/lang/AbstractStringBuilder" "maybeLatin1" "Z") ∈ tables_1 := wdk 301 rfl
theorem wd_302 : (Cond.methodLink "com/example/yusen/yusen/figures/ChecksNotPositivePinLaw" 12 ⟨"java/lang/String", "valueOf", "(C)Ljava/lang/String;"⟩) ∈ tables_1 := wdk 302 rfl
theorem wd_303 : (Cond.static ⟨"java/lang/String", "valueOf", "(C)Ljava/lang/String;"⟩) ∈ tables_1 := wdk 303 rfl
theorem wd_304 : (Cond.code ⟨"java/lang/String", "valueOf", "(C)Ljava/lang/String;"⟩ jdk_42_method_139_code 1 (Option.some (FieldType.object "java/lang/String"))) ∈ tables_1 := wdk 304 rfl
theorem wd_305 : (Cond.methodLink "java/lang/String" 1015 ⟨"java/lang/StringLatin1", "canEncode", "(C)Z"⟩) ∈ tables_1 := wdk 305 rfl
theorem wd_306 : (Cond.static ⟨"java/lang/StringLatin1", "canEncode", "(C)Z"⟩) ∈ tables_1 := wdk 306 rfl
theorem wd_307 : (Cond.code ⟨"java/lang/StringLatin1", "canEncode", "(C)Z"⟩ jdk_43_method_3_code 1 (Option.some FieldType.boolean)) ∈ tables_1 := wdk 307 rfl
theorem wd_308 : (Cond.methodLink "java/lang/String" 1018 ⟨"java/lang/StringLatin1", "toBytes", "(C)[B"⟩) ∈ tables_1 := wdk 308 rfl
theorem wd_309 : (Cond.static ⟨"java/lang/StringLatin1", "toBytes", "(C)[B"⟩) ∈ tables_1 := wdk 309 rfl
theorem wd_310 : (Cond.code ⟨"java/lang/StringLatin1", "toBytes", "(C)[B"⟩ jdk_43_method_46_code 1 (Option.some (FieldType.array FieldType.byte))) ∈ tables_1 := wdk 310 rfl
theorem wd_311 : (Cond.methodLink "java/lang/String" 209 ⟨"java/lang/String", "<init>", "([BB)V"⟩) ∈ tables_1 := wdk 311 rfl
theorem wd_312 : (Cond.instanceMethod ⟨"java/lang/String", "<init>", "([BB)V"⟩) ∈ tables_1 := wdk 312 rfl
theorem wd_313 : (Cond.code ⟨"java/lang/String", "<init>", "([BB)V"⟩ jdk_42_method_151_code 3 (Option.none : Option FieldType)) ∈ tables_1 := wdk 313 rfl
theorem wd_314 : (Cond.methodLink "java/lang/String" 1021 ⟨"java/lang/StringUTF16", "toBytes", "(C)[B"⟩) ∈ tables_1 := wdk 314 rfl
theorem wd_315 : (Cond.static ⟨"java/lang/StringUTF16", "toBytes", "(C)[B"⟩) ∈ tables_1 := wdk 315 rfl
theorem wd_316 : (Cond.code ⟨"java/lang/StringUTF16", "toBytes", "(C)[B"⟩ jdk_52_method_24_code 2 (Option.some (FieldType.array FieldType.byte))) ∈ tables_1 := wdk 316 rfl
theorem pd0 : parseMethodDescriptor "()B" = some ⟨[], some .byte⟩ := by decide +kernel
theorem pd1 : parseMethodDescriptor "(Ljava/lang/String;)V" = some ⟨[(.object "java/lang/String")], none⟩ := by decide +kernel
theorem pd2 : parseMethodDescriptor "([BIB)V" = some ⟨[(.array .byte), .int, .byte], none⟩ := by decide +kernel
theorem pd3 : parseMethodDescriptor "(I)V" = some ⟨[.int], none⟩ := by decide +kernel
theorem pd4 : parseMethodDescriptor "(ILjava/lang/String;)V" = some ⟨[.int, (.object "java/lang/String")], none⟩ := by decide +kernel
theorem pd5 : parseMethodDescriptor "(Ljava/lang/String;)Ljava/lang/AbstractStringBuilder;" = some ⟨[(.object "java/lang/String")], some (.object "java/lang/AbstractStringBuilder")⟩ := by decide +kernel
theorem pd6 : parseMethodDescriptor "([CIILjava/lang/Void;)V" = some ⟨[(.array .char), .int, .int, (.object "java/lang/Void")], none⟩ := by decide +kernel
theorem pd7 : parseMethodDescriptor "(C)Z" = some ⟨[.char], some .boolean⟩ := by decide +kernel
theorem pd8 : parseMethodDescriptor "(C)[B" = some ⟨[.char], some (.array .byte)⟩ := by decide +kernel
theorem pd9 : parseMethodDescriptor "([BB)V" = some ⟨[(.array .byte), .byte], none⟩ := by decide +kernel
theorem pd10 : parseMethodDescriptor "(I)I" = some ⟨[.int], some .int⟩ := by decide +kernel
theorem pd11 : parseMethodDescriptor "(I)[B" = some ⟨[.int], some (.array .byte)⟩ := by decide +kernel
theorem pd12 : parseMethodDescriptor "([BII)V" = some ⟨[(.array .byte), .int, .int], none⟩ := by decide +kernel
theorem pd13 : parseMethodDescriptor "([CI[BII)I" = some ⟨[(.array .char), .int, (.array .byte), .int, .int], some .int⟩ := by decide +kernel
theorem pd14 : parseMethodDescriptor "([CII)[B" = some ⟨[(.array .char), .int, .int], some (.array .byte)⟩ := by decide +kernel
theorem pd15 : parseMethodDescriptor "([BI)C" = some ⟨[(.array .byte), .int], some .char⟩ := by decide +kernel
theorem pd16 : parseMethodDescriptor "([BI)B" = some ⟨[(.array .byte), .int], some .byte⟩ := by decide +kernel
theorem pd17 : parseMethodDescriptor "(IIILjava/util/function/BiFunction;)I" = some ⟨[.int, .int, .int, (.object "java/util/function/BiFunction")], some .int⟩ := by decide +kernel
theorem pd18 : parseMethodDescriptor "([B)I" = some ⟨[(.array .byte)], some .int⟩ := by decide +kernel
theorem pd19 : parseMethodDescriptor "(III)I" = some ⟨[.int, .int, .int], some .int⟩ := by decide +kernel
theorem pd20 : parseMethodDescriptor "(II[B)V" = some ⟨[.int, .int, (.array .byte)], none⟩ := by decide +kernel
theorem pd21 : parseMethodDescriptor "([BI[BII)V" = some ⟨[(.array .byte), .int, (.array .byte), .int, .int], none⟩ := by decide +kernel
theorem pd22 : parseMethodDescriptor "(II)I" = some ⟨[.int, .int], some .int⟩ := by decide +kernel
theorem pd23 : parseMethodDescriptor "([BI)[B" = some ⟨[(.array .byte), .int], some (.array .byte)⟩ := by decide +kernel
theorem pd24 : parseMethodDescriptor "()Z" = some ⟨[], some .boolean⟩ := by decide +kernel
theorem pd25 : parseMethodDescriptor "()V" = some ⟨[], none⟩ := by decide +kernel
theorem pd26 : parseMethodDescriptor "()I" = some ⟨[], some .int⟩ := by decide +kernel
theorem pd27 : parseMethodDescriptor "(II)V" = some ⟨[.int, .int], none⟩ := by decide +kernel
theorem pd28 : parseMethodDescriptor "([BII)[B" = some ⟨[(.array .byte), .int, .int], some (.array .byte)⟩ := by decide +kernel
theorem pd29 : parseMethodDescriptor "()[B" = some ⟨[], some (.array .byte)⟩ := by decide +kernel
theorem pd30 : parseMethodDescriptor "(Ljava/lang/AbstractStringBuilder;Ljava/lang/Void;)V" = some ⟨[(.object "java/lang/AbstractStringBuilder"), (.object "java/lang/Void")], none⟩ := by decide +kernel
theorem pd31 : parseMethodDescriptor "(Ljava/lang/StringBuilder;)V" = some ⟨[(.object "java/lang/StringBuilder")], none⟩ := by decide +kernel
theorem pd32 : parseMethodDescriptor "(Ljava/lang/String;)Ljava/lang/StringBuilder;" = some ⟨[(.object "java/lang/String")], some (.object "java/lang/StringBuilder")⟩ := by decide +kernel
theorem pd33 : parseMethodDescriptor "()Ljava/lang/String;" = some ⟨[], some (.object "java/lang/String")⟩ := by decide +kernel
theorem pd34 : parseMethodDescriptor "([C)V" = some ⟨[(.array .char)], none⟩ := by decide +kernel
theorem pd35 : parseMethodDescriptor "(Ljava/lang/String;)Ljava/lang/IllegalArgumentException;" = some ⟨[(.object "java/lang/String")], some (.object "java/lang/IllegalArgumentException")⟩ := by decide +kernel
theorem pd36 : parseMethodDescriptor "(ICCC)Ljava/lang/String;" = some ⟨[.int, .char, .char, .char], some (.object "java/lang/String")⟩ := by decide +kernel
theorem pd37 : parseMethodDescriptor "(C)Ljava/lang/String;" = some ⟨[.char], some (.object "java/lang/String")⟩ := by decide +kernel
theorem pd38 : parseMethodDescriptor "(Ljava/lang/Object;)Z" = some ⟨[(.object "java/lang/Object")], some .boolean⟩ := by decide +kernel
theorem pn0 : plainFor (⟨"java/lang/String", "coder", "()B"⟩ : MethodName) = true := by first | exact plainFor_of_name (by first | (simp [plainName, overriddenIn]; done) | decide +kernel) | decide +kernel
theorem pn1 : plainFor (⟨"java/lang/AbstractStringBuilder", "inflateIfNeededFor", "(Ljava/lang/String;)V"⟩ : MethodName) = true := by first | exact plainFor_of_name (by first | (simp [plainName, overriddenIn]; done) | decide +kernel) | decide +kernel
theorem pn2 : plainFor (⟨"java/lang/AbstractStringBuilder", "ensureCapacityInternal", "(I)V"⟩ : MethodName) = true := by first | exact plainFor_of_name (by first | (simp [plainName, overriddenIn]; done) | decide +kernel) | decide +kernel
theorem pn3 : plainFor (⟨"java/lang/String", "getBytes", "([BIB)V"⟩ : MethodName) = true := by first | exact plainFor_of_name (by first | (simp [plainName, overriddenIn]; done) | decide +kernel) | decide +kernel
theorem pn4 : plainFor (⟨"java/lang/AbstractStringBuilder", "putStringAt", "(ILjava/lang/String;)V"⟩ : MethodName) = true := by first | exact plainFor_of_name (by first | (simp [plainName, overriddenIn]; done) | decide +kernel) | decide +kernel
theorem pn5 : plainFor (⟨"java/lang/AbstractStringBuilder", "append", "(Ljava/lang/String;)Ljava/lang/AbstractStringBuilder;"⟩ : MethodName) = true := by first | exact plainFor_of_name (by first | (simp [plainName, overriddenIn]; done) | decide +kernel) | decide +kernel
theorem pn6 : plainFor (⟨"java/lang/StringBuilder", "append", "(Ljava/lang/String;)Ljava/lang/StringBuilder;"⟩ : MethodName) = true := by first | exact plainFor_of_name (by first | (simp [plainName, overriddenIn]; done) | decide +kernel) | decide +kernel
theorem pn7 : plainFor (⟨"java/lang/AbstractStringBuilder", "<init>", "(I)V"⟩ : MethodName) = true := by first | exact plainFor_of_name (by first | (simp [plainName, overriddenIn]; done) | decide +kernel) | decide +kernel
theorem pn8 : plainFor (⟨"java/lang/StringBuilder", "<init>", "()V"⟩ : MethodName) = true := by first | exact plainFor_of_name (by first | (simp [plainName, overriddenIn]; done) | decide +kernel) | decide +kernel
theorem pn9 : plainFor (⟨"java/lang/String", "<init>", "([CIILjava/lang/Void;)V"⟩ : MethodName) = true := by first | exact plainFor_of_name (by first | (simp [plainName, overriddenIn]; done) | decide +kernel) | decide +kernel
theorem pn10 : plainFor (⟨"java/lang/String", "<init>", "([C)V"⟩ : MethodName) = true := by first | exact plainFor_of_name (by first | (simp [plainName, overriddenIn]; done) | decide +kernel) | decide +kernel
theorem pn11 : plainFor (⟨"java/lang/StringLatin1", "canEncode", "(C)Z"⟩ : MethodName) = true := by first | exact plainFor_of_name (by first | (simp [plainName, overriddenIn]; done) | decide +kernel) | decide +kernel
theorem pn12 : plainFor (⟨"java/lang/StringLatin1", "toBytes", "(C)[B"⟩ : MethodName) = true := by first | exact plainFor_of_name (by first | (simp [plainName, overriddenIn]; done) | decide +kernel) | decide +kernel
theorem pn13 : plainFor (⟨"java/lang/String", "<init>", "([BB)V"⟩ : MethodName) = true := by first | exact plainFor_of_name (by first | (simp [plainName, overriddenIn]; done) | decide +kernel) | decide +kernel
theorem pn14 : plainFor (⟨"java/lang/String", "valueOf", "(C)Ljava/lang/String;"⟩ : MethodName) = true := by first | exact plainFor_of_name (by first | (simp [plainName, overriddenIn]; done) | decide +kernel) | decide +kernel
theorem pn15 : plainFor (⟨"java/lang/StringUTF16", "newBytesLength", "(I)I"⟩ : MethodName) = true := by first | exact plainFor_of_name (by first | (simp [plainName, overriddenIn]; done) | decide +kernel) | decide +kernel
theorem pn16 : plainFor (⟨"java/lang/StringUTF16", "newBytesFor", "(I)[B"⟩ : MethodName) = true := by first | exact plainFor_of_name (by first | (simp [plainName, overriddenIn]; done) | decide +kernel) | decide +kernel
theorem pn17 : plainFor (⟨"java/lang/StringUTF16", "length", "([B)I"⟩ : MethodName) = true := by first | exact plainFor_of_name (by first | (simp [plainName, overriddenIn]; done) | decide +kernel) | decide +kernel
theorem pn18 : plainFor (⟨"java/lang/StringUTF16", "putChar", "([BII)V"⟩ : MethodName) = true := by first | exact plainFor_of_name (by first | (simp [plainName, overriddenIn]; done) | decide +kernel) | decide +kernel
theorem pn19 : plainFor (⟨"java/lang/StringUTF16", "getChar", "([BI)C"⟩ : MethodName) = true := by first | exact plainFor_of_name (by first | (simp [plainName, overriddenIn]; done) | decide +kernel) | decide +kernel
theorem pn20 : plainFor (⟨"java/lang/StringUTF16", "toBytes", "([CII)[B"⟩ : MethodName) = true := by first | exact plainFor_of_name (by first | (simp [plainName, overriddenIn]; done) | decide +kernel) | decide +kernel
theorem pn21 : plainFor (⟨"java/lang/StringUTF16", "toBytes", "(C)[B"⟩ : MethodName) = true := by first | exact plainFor_of_name (by first | (simp [plainName, overriddenIn]; done) | decide +kernel) | decide +kernel
theorem pn22 : plainFor (⟨"java/lang/StringUTF16", "compress", "([CI[BII)I"⟩ : MethodName) = true := by first | exact plainFor_of_name (by first | (simp [plainName, overriddenIn]; done) | decide +kernel) | decide +kernel
theorem pn23 : plainFor (⟨"java/lang/StringUTF16", "compress", "([CII)[B"⟩ : MethodName) = true := by first | exact plainFor_of_name (by first | (simp [plainName, overriddenIn]; done) | decide +kernel) | decide +kernel
theorem pn24 : plainFor (⟨"java/lang/StringUTF16", "coderFromArrayLen", "([BI)B"⟩ : MethodName) = true := by first | exact plainFor_of_name (by first | (simp [plainName, overriddenIn]; done) | decide +kernel) | decide +kernel
theorem pn25 : plainFor (⟨"jdk/internal/util/Preconditions", "checkFromIndexSize", "(IIILjava/util/function/BiFunction;)I"⟩ : MethodName) = true := by first | exact plainFor_of_name (by first | (simp [plainName, overriddenIn]; done) | decide +kernel) | decide +kernel
theorem pn26 : plainFor (⟨"java/lang/String", "checkBoundsOffCount", "(III)I"⟩ : MethodName) = true := by first | exact plainFor_of_name (by first | (simp [plainName, overriddenIn]; done) | decide +kernel) | decide +kernel
theorem pn27 : plainFor (⟨"java/lang/StringUTF16", "checkBoundsOffCount", "(II[B)V"⟩ : MethodName) = true := by first | exact plainFor_of_name (by first | (simp [plainName, overriddenIn]; done) | decide +kernel) | decide +kernel
theorem pn28 : plainFor (⟨"java/lang/StringUTF16", "inflate", "([BI[BII)V"⟩ : MethodName) = true := by first | exact plainFor_of_name (by first | (simp [plainName, overriddenIn]; done) | decide +kernel) | decide +kernel
theorem pn29 : plainFor (⟨"java/lang/StringLatin1", "inflate", "([BI[BII)V"⟩ : MethodName) = true := by first | exact plainFor_of_name (by first | (simp [plainName, overriddenIn]; done) | decide +kernel) | decide +kernel
theorem pn30 : plainFor (⟨"java/lang/Math", "max", "(II)I"⟩ : MethodName) = true := by first | exact plainFor_of_name (by first | (simp [plainName, overriddenIn]; done) | decide +kernel) | decide +kernel
theorem pn31 : plainFor (⟨"java/lang/Math", "min", "(II)I"⟩ : MethodName) = true := by first | exact plainFor_of_name (by first | (simp [plainName, overriddenIn]; done) | decide +kernel) | decide +kernel
theorem pn32 : plainFor (⟨"jdk/internal/util/ArraysSupport", "newLength", "(III)I"⟩ : MethodName) = true := by first | exact plainFor_of_name (by first | (simp [plainName, overriddenIn]; done) | decide +kernel) | decide +kernel
theorem pn33 : plainFor (⟨"java/lang/AbstractStringBuilder", "newCapacity", "(I)I"⟩ : MethodName) = true := by first | exact plainFor_of_name (by first | (simp [plainName, overriddenIn]; done) | decide +kernel) | decide +kernel
theorem pn34 : plainFor (⟨"java/util/Arrays", "copyOf", "([BI)[B"⟩ : MethodName) = true := by first | exact plainFor_of_name (by first | (simp [plainName, overriddenIn]; done) | decide +kernel) | decide +kernel
theorem pn35 : plainFor (⟨"java/lang/String", "length", "()I"⟩ : MethodName) = true := by first | exact plainFor_of_name (by first | (simp [plainName, overriddenIn]; done) | decide +kernel) | decide +kernel
theorem pn36 : plainFor (⟨"java/lang/AbstractStringBuilder", "isLatin1", "()Z"⟩ : MethodName) = true := by first | exact plainFor_of_name (by first | (simp [plainName, overriddenIn]; done) | decide +kernel) | decide +kernel
theorem pn37 : plainFor (⟨"java/lang/AbstractStringBuilder", "inflate", "()V"⟩ : MethodName) = true := by first | exact plainFor_of_name (by first | (simp [plainName, overriddenIn]; done) | decide +kernel) | decide +kernel
theorem pn38 : plainFor (⟨"java/lang/AbstractStringBuilder", "getValue", "()[B"⟩ : MethodName) = true := by first | exact plainFor_of_name (by first | (simp [plainName, overriddenIn]; done) | decide +kernel) | decide +kernel
theorem pn39 : plainFor (⟨"java/lang/AbstractStringBuilder", "length", "()I"⟩ : MethodName) = true := by first | exact plainFor_of_name (by first | (simp [plainName, overriddenIn]; done) | decide +kernel) | decide +kernel
theorem pn40 : plainFor (⟨"java/lang/StringBuilder", "length", "()I"⟩ : MethodName) = true := by first | exact plainFor_of_name (by first | (simp [plainName, overriddenIn]; done) | decide +kernel) | decide +kernel
theorem pn41 : plainFor (⟨"java/util/Arrays", "checkLength", "(II)V"⟩ : MethodName) = true := by first | exact plainFor_of_name (by first | (simp [plainName, overriddenIn]; done) | decide +kernel) | decide +kernel
theorem pn42 : plainFor (⟨"java/util/Arrays", "copyOfRangeByte", "([BII)[B"⟩ : MethodName) = true := by first | exact plainFor_of_name (by first | (simp [plainName, overriddenIn]; done) | decide +kernel) | decide +kernel
theorem pn43 : plainFor (⟨"java/util/Arrays", "copyOfRange", "([BII)[B"⟩ : MethodName) = true := by first | exact plainFor_of_name (by first | (simp [plainName, overriddenIn]; done) | decide +kernel) | decide +kernel
theorem pn44 : plainFor (⟨"java/lang/String", "<init>", "(Ljava/lang/AbstractStringBuilder;Ljava/lang/Void;)V"⟩ : MethodName) = true := by first | exact plainFor_of_name (by first | (simp [plainName, overriddenIn]; done) | decide +kernel) | decide +kernel
theorem pn45 : plainFor (⟨"java/lang/String", "<init>", "(Ljava/lang/StringBuilder;)V"⟩ : MethodName) = true := by first | exact plainFor_of_name (by first | (simp [plainName, overriddenIn]; done) | decide +kernel) | decide +kernel
theorem pn46 : plainFor (⟨"java/lang/StringBuilder", "toString", "()Ljava/lang/String;"⟩ : MethodName) = true := by first | exact plainFor_of_name (by first | (simp [plainName, overriddenIn]; done) | decide +kernel) | decide +kernel
theorem pn47 : plainFor (⟨"java/lang/Throwable", "<init>", "(Ljava/lang/String;)V"⟩ : MethodName) = true := by first | exact plainFor_of_name (by first | (simp [plainName, overriddenIn]; done) | decide +kernel) | decide +kernel
theorem pn48 : plainFor (⟨"java/lang/Exception", "<init>", "(Ljava/lang/String;)V"⟩ : MethodName) = true := by first | exact plainFor_of_name (by first | (simp [plainName, overriddenIn]; done) | decide +kernel) | decide +kernel
theorem pn49 : plainFor (⟨"java/lang/RuntimeException", "<init>", "(Ljava/lang/String;)V"⟩ : MethodName) = true := by first | exact plainFor_of_name (by first | (simp [plainName, overriddenIn]; done) | decide +kernel) | decide +kernel
theorem pn50 : plainFor (⟨"java/lang/IllegalArgumentException", "<init>", "(Ljava/lang/String;)V"⟩ : MethodName) = true := by first | exact plainFor_of_name (by first | (simp [plainName, overriddenIn]; done) | decide +kernel) | decide +kernel
theorem pn51 : plainFor (⟨"com/example/yusen/yusen/figures/Checks", "notPositive", "(Ljava/lang/String;)Ljava/lang/IllegalArgumentException;"⟩ : MethodName) = true := by first | exact plainFor_of_name (by first | (simp [plainName, overriddenIn]; done) | decide +kernel) | decide +kernel
theorem pn52 : plainFor (⟨"com/example/yusen/yusen/figures/ChecksNotPositivePinLaw", "expected", "(ICCC)Ljava/lang/String;"⟩ : MethodName) = true := by first | exact plainFor_of_name (by first | (simp [plainName, overriddenIn]; done) | decide +kernel) | decide +kernel
theorem pn53 : plainFor (⟨"java/lang/Throwable", "getMessage", "()Ljava/lang/String;"⟩ : MethodName) = true := by first | exact plainFor_of_name (by first | (simp [plainName, overriddenIn]; done) | decide +kernel) | decide +kernel
theorem pn54 : plainFor (⟨"com/example/yusen/yusen/figures/ChecksNotPositivePinLaw", "law", "(IIII)Z"⟩ : MethodName) = true := by first | exact plainFor_of_name (by first | (simp [plainName, overriddenIn]; done) | decide +kernel) | decide +kernel
abbrev Io := Jvm.Own.Ins
abbrev B0 : ByteArray := jdk_42_method_152_code
abbrev B1 : ByteArray := jdk_68_method_71_code
abbrev B2 : ByteArray := jdk_68_method_9_code
abbrev B3 : ByteArray := jdk_42_method_147_code
abbrev B4 : ByteArray := jdk_68_method_73_code
abbrev B5 : ByteArray := jdk_68_method_22_code
abbrev B6 : ByteArray := jdk_67_method_7_code
abbrev B7 : ByteArray := jdk_68_method_2_code
abbrev B8 : ByteArray := jdk_67_method_1_code
abbrev B9 : ByteArray := jdk_42_method_149_code
abbrev B10 : ByteArray := jdk_42_method_3_code
abbrev B11 : ByteArray := jdk_43_method_3_code
abbrev B12 : ByteArray := jdk_43_method_46_code
abbrev B13 : ByteArray := jdk_42_method_151_code
abbrev B14 : ByteArray := jdk_42_method_139_code
abbrev B15 : ByteArray := jdk_52_method_3_code
abbrev B16 : ByteArray := jdk_52_method_2_code
abbrev B17 : ByteArray := jdk_52_method_6_code
abbrev B18 : ByteArray := jdk_52_method_4_code
abbrev B19 : ByteArray := jdk_52_method_5_code
abbrev B20 : ByteArray := jdk_52_method_14_code
abbrev B21 : ByteArray := jdk_52_method_24_code
abbrev B22 : ByteArray := jdk_52_method_21_code
abbrev B23 : ByteArray := jdk_52_method_16_code
abbrev B24 : ByteArray := jdk_52_method_15_code
abbrev B25 : ByteArray := jdk_41_method_13_code
abbrev B26 : ByteArray := jdk_42_method_157_code
abbrev B27 : ByteArray := jdk_52_method_94_code
abbrev B28 : ByteArray := jdk_52_method_86_code
abbrev B29 : ByteArray := jdk_43_method_50_code
abbrev B30 : ByteArray := jdk_29_method_65_code
abbrev B31 : ByteArray := jdk_29_method_69_code
abbrev B32 : ByteArray := jdk_48_method_27_code
abbrev B33 : ByteArray := jdk_68_method_10_code
abbrev B34 : ByteArray := jdk_65_method_121_code
abbrev B35 : ByteArray := jdk_42_method_54_code
abbrev B36 : ByteArray := jdk_68_method_68_code
abbrev B37 : ByteArray := jdk_68_method_11_code
abbrev B38 : ByteArray := jdk_68_method_64_code
abbrev B39 : ByteArray := jdk_68_method_6_code
abbrev B40 : ByteArray := jdk_67_method_93_code
abbrev B41 : ByteArray := jdk_65_method_131_code
abbrev B42 : ByteArray := jdk_65_method_133_code
abbrev B43 : ByteArray := jdk_65_method_132_code
abbrev B44 : ByteArray := jdk_42_method_150_code
abbrev B45 : ByteArray := jdk_42_method_53_code
abbrev B46 : ByteArray := jdk_67_method_42_code
abbrev B47 : ByteArray := jdk_78_method_2_code
abbrev B48 : ByteArray := jdk_59_method_2_code
abbrev B49 : ByteArray := jdk_58_method_2_code
abbrev B50 : ByteArray := jdk_57_method_2_code
abbrev B51 : ByteArray := prog_15_method_3_code
abbrev B52 : ByteArray := method_3_code
abbrev B53 : ByteArray := jdk_78_method_6_code
theorem i0_0 : Io B0 0 (.getstatic 38) 3 3 := by decide +kernel
theorem i0_3 : Io B0 3 (.ifCond .eq 10) 3 6 := by decide +kernel
theorem i0_6 : Io B0 6 (.aload_n 0) 1 7 := by decide +kernel
theorem i0_7 : Io B0 7 (.getfield 15) 3 10 := by decide +kernel
theorem i0_10 : Io B0 10 (.goto 4) 3 13 := by decide +kernel
theorem i0_14 : Io B0 14 (.ireturn) 1 15 := by decide +kernel
theorem i1_0 : Io B1 0 (.getstatic 18) 3 3 := by decide +kernel
theorem i1_3 : Io B1 3 (.ifCond .eq 18) 3 6 := by decide +kernel
theorem i1_6 : Io B1 6 (.aload_n 0) 1 7 := by decide +kernel
theorem i1_7 : Io B1 7 (.getfield 22) 3 10 := by decide +kernel
theorem i1_10 : Io B1 10 (.aload_n 1) 1 11 := by decide +kernel
theorem i1_11 : Io B1 11 (.invokevirtual 40) 3 14 := by decide +kernel
theorem i1_14 : Io B1 14 (.if_icmp .eq 7) 3 17 := by decide +kernel
theorem i1_17 : Io B1 17 (.aload_n 0) 1 18 := by decide +kernel
theorem i1_18 : Io B1 18 (.invokevirtual 195) 3 21 := by decide +kernel
theorem i1_21 : Io B1 21 (.return_) 1 22 := by decide +kernel
theorem i2_0 : Io B2 0 (.aload_n 0) 1 1 := by decide +kernel
theorem i2_1 : Io B2 1 (.getfield 15) 3 4 := by decide +kernel
theorem i2_4 : Io B2 4 (.arraylength) 1 5 := by decide +kernel
theorem i2_5 : Io B2 5 (.aload_n 0) 1 6 := by decide +kernel
theorem i2_6 : Io B2 6 (.getfield 22) 3 9 := by decide +kernel
theorem i2_9 : Io B2 9 (.ishr) 1 10 := by decide +kernel
theorem i2_10 : Io B2 10 (.istore_n 2) 1 11 := by decide +kernel
theorem i2_11 : Io B2 11 (.iload_n 1) 1 12 := by decide +kernel
theorem i2_12 : Io B2 12 (.iload_n 2) 1 13 := by decide +kernel
theorem i2_13 : Io B2 13 (.isub) 1 14 := by decide +kernel
theorem i2_14 : Io B2 14 (.ifCond .le 24) 3 17 := by decide +kernel
theorem i2_17 : Io B2 17 (.aload_n 0) 1 18 := by decide +kernel
theorem i2_18 : Io B2 18 (.aload_n 0) 1 19 := by decide +kernel
theorem i2_19 : Io B2 19 (.getfield 15) 3 22 := by decide +kernel
theorem i2_22 : Io B2 22 (.aload_n 0) 1 23 := by decide +kernel
theorem i2_23 : Io B2 23 (.iload_n 1) 1 24 := by decide +kernel
theorem i2_24 : Io B2 24 (.invokevirtual 104) 3 27 := by decide +kernel
theorem i2_27 : Io B2 27 (.aload_n 0) 1 28 := by decide +kernel
theorem i2_28 : Io B2 28 (.getfield 22) 3 31 := by decide +kernel
theorem i2_31 : Io B2 31 (.ishl) 1 32 := by decide +kernel
theorem i2_32 : Io B2 32 (.invokestatic 108) 3 35 := by decide +kernel
theorem i2_35 : Io B2 35 (.putfield 15) 3 38 := by decide +kernel
theorem i2_38 : Io B2 38 (.return_) 1 39 := by decide +kernel
theorem i3_0 : Io B3 0 (.aload_n 0) 1 1 := by decide +kernel
theorem i3_1 : Io B3 1 (.invokevirtual 335) 3 4 := by decide +kernel
theorem i3_4 : Io B3 4 (.iload_n 3) 1 5 := by decide +kernel
theorem i3_5 : Io B3 5 (.if_icmp .ne 23) 3 8 := by decide +kernel
theorem i3_8 : Io B3 8 (.aload_n 0) 1 9 := by decide +kernel
theorem i3_9 : Io B3 9 (.getfield 9) 3 12 := by decide +kernel
theorem i3_12 : Io B3 12 (.iconst 0) 1 13 := by decide +kernel
theorem i3_13 : Io B3 13 (.aload_n 1) 1 14 := by decide +kernel
theorem i3_14 : Io B3 14 (.iload_n 2) 1 15 := by decide +kernel
theorem i3_15 : Io B3 15 (.iload_n 3) 1 16 := by decide +kernel
theorem i3_16 : Io B3 16 (.ishl) 1 17 := by decide +kernel
theorem i3_17 : Io B3 17 (.aload_n 0) 1 18 := by decide +kernel
theorem i3_18 : Io B3 18 (.getfield 9) 3 21 := by decide +kernel
theorem i3_21 : Io B3 21 (.arraylength) 1 22 := by decide +kernel
theorem i3_22 : Io B3 22 (.invokestatic 212) 3 25 := by decide +kernel
theorem i3_25 : Io B3 25 (.goto 18) 3 28 := by decide +kernel
theorem i3_28 : Io B3 28 (.aload_n 0) 1 29 := by decide +kernel
theorem i3_29 : Io B3 29 (.getfield 9) 3 32 := by decide +kernel
theorem i3_32 : Io B3 32 (.iconst 0) 1 33 := by decide +kernel
theorem i3_33 : Io B3 33 (.aload_n 1) 1 34 := by decide +kernel
theorem i3_34 : Io B3 34 (.iload_n 2) 1 35 := by decide +kernel
theorem i3_35 : Io B3 35 (.aload_n 0) 1 36 := by decide +kernel
theorem i3_36 : Io B3 36 (.getfield 9) 3 39 := by decide +kernel
theorem i3_39 : Io B3 39 (.arraylength) 1 40 := by decide +kernel
theorem i3_40 : Io B3 40 (.invokestatic 106) 3 43 := by decide +kernel
theorem i3_43 : Io B3 43 (.return_) 1 44 := by decide +kernel
theorem i4_0 : Io B4 0 (.aload_n 0) 1 1 := by decide +kernel
theorem i4_1 : Io B4 1 (.aload_n 2) 1 2 := by decide +kernel
theorem i4_2 : Io B4 2 (.invokevirtual 397) 3 5 := by decide +kernel
theorem i4_5 : Io B4 5 (.aload_n 2) 1 6 := by decide +kernel
theorem i4_6 : Io B4 6 (.aload_n 0) 1 7 := by decide +kernel
theorem i4_7 : Io B4 7 (.getfield 15) 3 10 := by decide +kernel
theorem i4_10 : Io B4 10 (.iload_n 1) 1 11 := by decide +kernel
theorem i4_11 : Io B4 11 (.aload_n 0) 1 12 := by decide +kernel
theorem i4_12 : Io B4 12 (.getfield 22) 3 15 := by decide +kernel
theorem i4_15 : Io B4 15 (.invokevirtual 399) 3 18 := by decide +kernel
theorem i4_18 : Io B4 18 (.return_) 1 19 := by decide +kernel
theorem i5_0 : Io B5 0 (.aload_n 1) 1 1 := by decide +kernel
theorem i5_1 : Io B5 1 (.ifnonnull 8) 3 4 := by decide +kernel
theorem i5_9 : Io B5 9 (.aload_n 1) 1 10 := by decide +kernel
theorem i5_10 : Io B5 10 (.invokevirtual 32) 3 13 := by decide +kernel
theorem i5_13 : Io B5 13 (.istore_n 2) 1 14 := by decide +kernel
theorem i5_14 : Io B5 14 (.aload_n 0) 1 15 := by decide +kernel
theorem i5_15 : Io B5 15 (.aload_n 0) 1 16 := by decide +kernel
theorem i5_16 : Io B5 16 (.getfield 79) 3 19 := by decide +kernel
theorem i5_19 : Io B5 19 (.iload_n 2) 1 20 := by decide +kernel
theorem i5_20 : Io B5 20 (.iadd) 1 21 := by decide +kernel
theorem i5_21 : Io B5 21 (.invokevirtual 100) 3 24 := by decide +kernel
theorem i5_24 : Io B5 24 (.aload_n 0) 1 25 := by decide +kernel
theorem i5_25 : Io B5 25 (.aload_n 0) 1 26 := by decide +kernel
theorem i5_26 : Io B5 26 (.getfield 79) 3 29 := by decide +kernel
theorem i5_29 : Io B5 29 (.aload_n 1) 1 30 := by decide +kernel
theorem i5_30 : Io B5 30 (.invokevirtual 208) 3 33 := by decide +kernel
theorem i5_33 : Io B5 33 (.aload_n 0) 1 34 := by decide +kernel
theorem i5_34 : Io B5 34 (.dup) 1 35 := by decide +kernel
theorem i5_35 : Io B5 35 (.getfield 79) 3 38 := by decide +kernel
theorem i5_38 : Io B5 38 (.iload_n 2) 1 39 := by decide +kernel
theorem i5_39 : Io B5 39 (.iadd) 1 40 := by decide +kernel
theorem i5_40 : Io B5 40 (.putfield 79) 3 43 := by decide +kernel
theorem i5_43 : Io B5 43 (.aload_n 0) 1 44 := by decide +kernel
theorem i5_44 : Io B5 44 (.areturn) 1 45 := by decide +kernel
theorem i6_0 : Io B6 0 (.aload_n 0) 1 1 := by decide +kernel
theorem i6_1 : Io B6 1 (.aload_n 1) 1 2 := by decide +kernel
theorem i6_2 : Io B6 2 (.invokespecial 29) 3 5 := by decide +kernel
theorem i6_5 : Io B6 5 (.pop) 1 6 := by decide +kernel
theorem i6_6 : Io B6 6 (.aload_n 0) 1 7 := by decide +kernel
theorem i6_7 : Io B6 7 (.areturn) 1 8 := by decide +kernel
theorem i7_0 : Io B7 0 (.aload_n 0) 1 1 := by decide +kernel
theorem i7_1 : Io B7 1 (.invokespecial 3) 3 4 := by decide +kernel
theorem i7_4 : Io B7 4 (.getstatic 18) 3 7 := by decide +kernel
theorem i7_7 : Io B7 7 (.ifCond .eq 18) 3 10 := by decide +kernel
theorem i7_10 : Io B7 10 (.aload_n 0) 1 11 := by decide +kernel
theorem i7_11 : Io B7 11 (.iload_n 1) 1 12 := by decide +kernel
theorem i7_12 : Io B7 12 (.newarray .byte) 2 14 := by decide +kernel
theorem i7_14 : Io B7 14 (.putfield 15) 3 17 := by decide +kernel
theorem i7_17 : Io B7 17 (.aload_n 0) 1 18 := by decide +kernel
theorem i7_18 : Io B7 18 (.iconst 0) 1 19 := by decide +kernel
theorem i7_19 : Io B7 19 (.putfield 22) 3 22 := by decide +kernel
theorem i7_22 : Io B7 22 (.goto 16) 3 25 := by decide +kernel
theorem i7_38 : Io B7 38 (.return_) 1 39 := by decide +kernel
theorem i8_0 : Io B8 0 (.aload_n 0) 1 1 := by decide +kernel
theorem i8_1 : Io B8 1 (.bipush 16) 2 3 := by decide +kernel
theorem i8_3 : Io B8 3 (.invokespecial 1) 3 6 := by decide +kernel
theorem i8_6 : Io B8 6 (.return_) 1 7 := by decide +kernel
theorem i9_0 : Io B9 0 (.aload_n 0) 1 1 := by decide +kernel
theorem i9_1 : Io B9 1 (.invokespecial 1) 3 4 := by decide +kernel
theorem i9_4 : Io B9 4 (.iload_n 3) 1 5 := by decide +kernel
theorem i9_5 : Io B9 5 (.ifCond .ne 22) 3 8 := by decide +kernel
theorem i9_8 : Io B9 8 (.aload_n 0) 1 9 := by decide +kernel
theorem i9_9 : Io B9 9 (.ldc 7) 2 11 := by decide +kernel
theorem i9_11 : Io B9 11 (.getfield 9) 3 14 := by decide +kernel
theorem i9_14 : Io B9 14 (.putfield 9) 3 17 := by decide +kernel
theorem i9_17 : Io B9 17 (.aload_n 0) 1 18 := by decide +kernel
theorem i9_18 : Io B9 18 (.ldc 7) 2 20 := by decide +kernel
theorem i9_20 : Io B9 20 (.getfield 15) 3 23 := by decide +kernel
theorem i9_23 : Io B9 23 (.putfield 15) 3 26 := by decide +kernel
theorem i9_26 : Io B9 26 (.return_) 1 27 := by decide +kernel
theorem i9_27 : Io B9 27 (.getstatic 38) 3 30 := by decide +kernel
theorem i9_30 : Io B9 30 (.ifCond .eq 28) 3 33 := by decide +kernel
theorem i9_33 : Io B9 33 (.aload_n 1) 1 34 := by decide +kernel
theorem i9_34 : Io B9 34 (.iload_n 2) 1 35 := by decide +kernel
theorem i9_35 : Io B9 35 (.iload_n 3) 1 36 := by decide +kernel
theorem i9_36 : Io B9 36 (.invokestatic 177) 3 39 := by decide +kernel
theorem i9_39 : Io B9 39 (.astore 5) 2 41 := by decide +kernel
theorem i9_41 : Io B9 41 (.aload_n 0) 1 42 := by decide +kernel
theorem i9_42 : Io B9 42 (.aload 5) 2 44 := by decide +kernel
theorem i9_44 : Io B9 44 (.iload_n 3) 1 45 := by decide +kernel
theorem i9_45 : Io B9 45 (.invokestatic 47) 3 48 := by decide +kernel
theorem i9_48 : Io B9 48 (.putfield 15) 3 51 := by decide +kernel
theorem i9_51 : Io B9 51 (.aload_n 0) 1 52 := by decide +kernel
theorem i9_52 : Io B9 52 (.aload 5) 2 54 := by decide +kernel
theorem i9_54 : Io B9 54 (.putfield 9) 3 57 := by decide +kernel
theorem i9_57 : Io B9 57 (.return_) 1 58 := by decide +kernel
theorem i10_0 : Io B10 0 (.aload_n 0) 1 1 := by decide +kernel
theorem i10_1 : Io B10 1 (.aload_n 1) 1 2 := by decide +kernel
theorem i10_2 : Io B10 2 (.iconst 0) 1 3 := by decide +kernel
theorem i10_3 : Io B10 3 (.aload_n 1) 1 4 := by decide +kernel
theorem i10_4 : Io B10 4 (.arraylength) 1 5 := by decide +kernel
theorem i10_5 : Io B10 5 (.aconst_null) 1 6 := by decide +kernel
theorem i10_6 : Io B10 6 (.invokespecial 27) 3 9 := by decide +kernel
theorem i10_9 : Io B10 9 (.return_) 1 10 := by decide +kernel
theorem i11_0 : Io B11 0 (.iload_n 0) 1 1 := by decide +kernel
theorem i11_1 : Io B11 1 (.sipush 255) 3 4 := by decide +kernel
theorem i11_4 : Io B11 4 (.if_icmp .gt 7) 3 7 := by decide +kernel
theorem i11_7 : Io B11 7 (.iconst 1) 1 8 := by decide +kernel
theorem i11_8 : Io B11 8 (.goto 4) 3 11 := by decide +kernel
theorem i11_11 : Io B11 11 (.iconst 0) 1 12 := by decide +kernel
theorem i11_12 : Io B11 12 (.ireturn) 1 13 := by decide +kernel
theorem i12_0 : Io B12 0 (.iconst 1) 1 1 := by decide +kernel
theorem i12_1 : Io B12 1 (.newarray .byte) 2 3 := by decide +kernel
theorem i12_3 : Io B12 3 (.dup) 1 4 := by decide +kernel
theorem i12_4 : Io B12 4 (.iconst 0) 1 5 := by decide +kernel
theorem i12_5 : Io B12 5 (.iload_n 0) 1 6 := by decide +kernel
theorem i12_6 : Io B12 6 (.i2b) 1 7 := by decide +kernel
theorem i12_7 : Io B12 7 (.bastore) 1 8 := by decide +kernel
theorem i12_8 : Io B12 8 (.areturn) 1 9 := by decide +kernel
theorem i13_0 : Io B13 0 (.aload_n 0) 1 1 := by decide +kernel
theorem i13_1 : Io B13 1 (.invokespecial 1) 3 4 := by decide +kernel
theorem i13_4 : Io B13 4 (.aload_n 0) 1 5 := by decide +kernel
theorem i13_5 : Io B13 5 (.aload_n 1) 1 6 := by decide +kernel
theorem i13_6 : Io B13 6 (.putfield 9) 3 9 := by decide +kernel
theorem i13_9 : Io B13 9 (.aload_n 0) 1 10 := by decide +kernel
theorem i13_10 : Io B13 10 (.iload_n 2) 1 11 := by decide +kernel
theorem i13_11 : Io B13 11 (.putfield 15) 3 14 := by decide +kernel
theorem i13_14 : Io B13 14 (.return_) 1 15 := by decide +kernel
theorem i14_0 : Io B14 0 (.getstatic 38) 3 3 := by decide +kernel
theorem i14_3 : Io B14 3 (.ifCond .eq 23) 3 6 := by decide +kernel
theorem i14_6 : Io B14 6 (.iload_n 0) 1 7 := by decide +kernel
theorem i14_7 : Io B14 7 (.invokestatic 1015) 3 10 := by decide +kernel
theorem i14_10 : Io B14 10 (.ifCond .eq 16) 3 13 := by decide +kernel
theorem i14_13 : Io B14 13 (.new 10) 3 16 := by decide +kernel
theorem i14_16 : Io B14 16 (.dup) 1 17 := by decide +kernel
theorem i14_17 : Io B14 17 (.iload_n 0) 1 18 := by decide +kernel
theorem i14_18 : Io B14 18 (.invokestatic 1018) 3 21 := by decide +kernel
theorem i14_21 : Io B14 21 (.iconst 0) 1 22 := by decide +kernel
theorem i14_22 : Io B14 22 (.invokespecial 209) 3 25 := by decide +kernel
theorem i14_25 : Io B14 25 (.areturn) 1 26 := by decide +kernel
theorem i14_26 : Io B14 26 (.new 10) 3 29 := by decide +kernel
theorem i14_29 : Io B14 29 (.dup) 1 30 := by decide +kernel
theorem i14_30 : Io B14 30 (.iload_n 0) 1 31 := by decide +kernel
theorem i14_31 : Io B14 31 (.invokestatic 1021) 3 34 := by decide +kernel
theorem i14_34 : Io B14 34 (.iconst 1) 1 35 := by decide +kernel
theorem i14_35 : Io B14 35 (.invokespecial 209) 3 38 := by decide +kernel
theorem i14_38 : Io B14 38 (.areturn) 1 39 := by decide +kernel
theorem i15_0 : Io B15 0 (.iload_n 0) 1 1 := by decide +kernel
theorem i15_1 : Io B15 1 (.ifCond .ge 11) 3 4 := by decide +kernel
theorem i15_12 : Io B15 12 (.iload_n 0) 1 13 := by decide +kernel
theorem i15_13 : Io B15 13 (.ldc 20) 2 15 := by decide +kernel
theorem i15_15 : Io B15 15 (.if_icmp .lt 40) 3 18 := by decide +kernel
theorem i15_55 : Io B15 55 (.iload_n 0) 1 56 := by decide +kernel
theorem i15_56 : Io B15 56 (.iconst 1) 1 57 := by decide +kernel
theorem i15_57 : Io B15 57 (.ishl) 1 58 := by decide +kernel
theorem i15_58 : Io B15 58 (.ireturn) 1 59 := by decide +kernel
theorem i16_0 : Io B16 0 (.iload_n 0) 1 1 := by decide +kernel
theorem i16_1 : Io B16 1 (.invokestatic 11) 3 4 := by decide +kernel
theorem i16_4 : Io B16 4 (.newarray .byte) 2 6 := by decide +kernel
theorem i16_6 : Io B16 6 (.areturn) 1 7 := by decide +kernel
theorem i17_0 : Io B17 0 (.aload_n 0) 1 1 := by decide +kernel
theorem i17_1 : Io B17 1 (.arraylength) 1 2 := by decide +kernel
theorem i17_2 : Io B17 2 (.iconst 1) 1 3 := by decide +kernel
theorem i17_3 : Io B17 3 (.ishr) 1 4 := by decide +kernel
theorem i17_4 : Io B17 4 (.ireturn) 1 5 := by decide +kernel
theorem i18_0 : Io B18 0 (.getstatic 44) 3 3 := by decide +kernel
theorem i18_3 : Io B18 3 (.ifCond .ne 25) 3 6 := by decide +kernel
theorem i18_28 : Io B18 28 (.iload_n 1) 1 29 := by decide +kernel
theorem i18_29 : Io B18 29 (.iconst 1) 1 30 := by decide +kernel
theorem i18_30 : Io B18 30 (.ishl) 1 31 := by decide +kernel
theorem i18_31 : Io B18 31 (.istore_n 1) 1 32 := by decide +kernel
theorem i18_32 : Io B18 32 (.aload_n 0) 1 33 := by decide +kernel
theorem i18_33 : Io B18 33 (.iload_n 1) 1 34 := by decide +kernel
theorem i18_34 : Io B18 34 (.iinc 1 1) 3 37 := by decide +kernel
theorem i18_37 : Io B18 37 (.iload_n 2) 1 38 := by decide +kernel
theorem i18_38 : Io B18 38 (.getstatic 59) 3 41 := by decide +kernel
theorem i18_41 : Io B18 41 (.ishr) 1 42 := by decide +kernel
theorem i18_42 : Io B18 42 (.i2b) 1 43 := by decide +kernel
theorem i18_43 : Io B18 43 (.bastore) 1 44 := by decide +kernel
theorem i18_44 : Io B18 44 (.aload_n 0) 1 45 := by decide +kernel
theorem i18_45 : Io B18 45 (.iload_n 1) 1 46 := by decide +kernel
theorem i18_46 : Io B18 46 (.iload_n 2) 1 47 := by decide +kernel
theorem i18_47 : Io B18 47 (.getstatic 63) 3 50 := by decide +kernel
theorem i18_50 : Io B18 50 (.ishr) 1 51 := by decide +kernel
theorem i18_51 : Io B18 51 (.i2b) 1 52 := by decide +kernel
theorem i18_52 : Io B18 52 (.bastore) 1 53 := by decide +kernel
theorem i18_53 : Io B18 53 (.return_) 1 54 := by decide +kernel
theorem i19_0 : Io B19 0 (.getstatic 44) 3 3 := by decide +kernel
theorem i19_3 : Io B19 3 (.ifCond .ne 25) 3 6 := by decide +kernel
theorem i19_28 : Io B19 28 (.iload_n 1) 1 29 := by decide +kernel
theorem i19_29 : Io B19 29 (.iconst 1) 1 30 := by decide +kernel
theorem i19_30 : Io B19 30 (.ishl) 1 31 := by decide +kernel
theorem i19_31 : Io B19 31 (.istore_n 1) 1 32 := by decide +kernel
theorem i19_32 : Io B19 32 (.aload_n 0) 1 33 := by decide +kernel
theorem i19_33 : Io B19 33 (.iload_n 1) 1 34 := by decide +kernel
theorem i19_34 : Io B19 34 (.iinc 1 1) 3 37 := by decide +kernel
theorem i19_37 : Io B19 37 (.baload) 1 38 := by decide +kernel
theorem i19_38 : Io B19 38 (.sipush 255) 3 41 := by decide +kernel
theorem i19_41 : Io B19 41 (.iand) 1 42 := by decide +kernel
theorem i19_42 : Io B19 42 (.getstatic 59) 3 45 := by decide +kernel
theorem i19_45 : Io B19 45 (.ishl) 1 46 := by decide +kernel
theorem i19_46 : Io B19 46 (.aload_n 0) 1 47 := by decide +kernel
theorem i19_47 : Io B19 47 (.iload_n 1) 1 48 := by decide +kernel
theorem i19_48 : Io B19 48 (.baload) 1 49 := by decide +kernel
theorem i19_49 : Io B19 49 (.sipush 255) 3 52 := by decide +kernel
theorem i19_52 : Io B19 52 (.iand) 1 53 := by decide +kernel
theorem i19_53 : Io B19 53 (.getstatic 63) 3 56 := by decide +kernel
theorem i19_56 : Io B19 56 (.ishl) 1 57 := by decide +kernel
theorem i19_57 : Io B19 57 (.ior) 1 58 := by decide +kernel
theorem i19_58 : Io B19 58 (.i2c) 1 59 := by decide +kernel
theorem i19_59 : Io B19 59 (.ireturn) 1 60 := by decide +kernel
theorem i20_0 : Io B20 0 (.iload_n 2) 1 1 := by decide +kernel
theorem i20_1 : Io B20 1 (.invokestatic 107) 3 4 := by decide +kernel
theorem i20_4 : Io B20 4 (.astore_n 3) 1 5 := by decide +kernel
theorem i20_5 : Io B20 5 (.iconst 0) 1 6 := by decide +kernel
theorem i20_6 : Io B20 6 (.istore 4) 2 8 := by decide +kernel
theorem i20_8 : Io B20 8 (.iload 4) 2 10 := by decide +kernel
theorem i20_10 : Io B20 10 (.iload_n 2) 1 11 := by decide +kernel
theorem i20_11 : Io B20 11 (.if_icmp .ge 21) 3 14 := by decide +kernel
theorem i20_14 : Io B20 14 (.aload_n 3) 1 15 := by decide +kernel
theorem i20_15 : Io B20 15 (.iload 4) 2 17 := by decide +kernel
theorem i20_17 : Io B20 17 (.aload_n 0) 1 18 := by decide +kernel
theorem i20_18 : Io B20 18 (.iload_n 1) 1 19 := by decide +kernel
theorem i20_19 : Io B20 19 (.caload) 1 20 := by decide +kernel
theorem i20_20 : Io B20 20 (.invokestatic 111) 3 23 := by decide +kernel
theorem i20_23 : Io B20 23 (.iinc 1 1) 3 26 := by decide +kernel
theorem i20_26 : Io B20 26 (.iinc 4 1) 3 29 := by decide +kernel
theorem i20_29 : Io B20 29 (.goto (-21)) 3 32 := by decide +kernel
theorem i20_32 : Io B20 32 (.aload_n 3) 1 33 := by decide +kernel
theorem i20_33 : Io B20 33 (.areturn) 1 34 := by decide +kernel
theorem i21_0 : Io B21 0 (.iconst 2) 1 1 := by decide +kernel
theorem i21_1 : Io B21 1 (.newarray .byte) 2 3 := by decide +kernel
theorem i21_3 : Io B21 3 (.astore_n 1) 1 4 := by decide +kernel
theorem i21_4 : Io B21 4 (.aload_n 1) 1 5 := by decide +kernel
theorem i21_5 : Io B21 5 (.iconst 0) 1 6 := by decide +kernel
theorem i21_6 : Io B21 6 (.iload_n 0) 1 7 := by decide +kernel
theorem i21_7 : Io B21 7 (.invokestatic 111) 3 10 := by decide +kernel
theorem i21_10 : Io B21 10 (.aload_n 1) 1 11 := by decide +kernel
theorem i21_11 : Io B21 11 (.areturn) 1 12 := by decide +kernel
theorem i22_0 : Io B22 0 (.iconst 0) 1 1 := by decide +kernel
theorem i22_1 : Io B22 1 (.istore 5) 2 3 := by decide +kernel
theorem i22_3 : Io B22 3 (.iload 5) 2 5 := by decide +kernel
theorem i22_5 : Io B22 5 (.iload 4) 2 7 := by decide +kernel
theorem i22_7 : Io B22 7 (.if_icmp .ge 37) 3 10 := by decide +kernel
theorem i22_10 : Io B22 10 (.aload_n 0) 1 11 := by decide +kernel
theorem i22_11 : Io B22 11 (.iload_n 1) 1 12 := by decide +kernel
theorem i22_12 : Io B22 12 (.caload) 1 13 := by decide +kernel
theorem i22_13 : Io B22 13 (.istore 6) 2 15 := by decide +kernel
theorem i22_15 : Io B22 15 (.iload 6) 2 17 := by decide +kernel
theorem i22_17 : Io B22 17 (.sipush 255) 3 20 := by decide +kernel
theorem i22_20 : Io B22 20 (.if_icmp .le 6) 3 23 := by decide +kernel
theorem i22_23 : Io B22 23 (.iload 5) 2 25 := by decide +kernel
theorem i22_25 : Io B22 25 (.ireturn) 1 26 := by decide +kernel
theorem i22_26 : Io B22 26 (.aload_n 2) 1 27 := by decide +kernel
theorem i22_27 : Io B22 27 (.iload_n 3) 1 28 := by decide +kernel
theorem i22_28 : Io B22 28 (.iload 6) 2 30 := by decide +kernel
theorem i22_30 : Io B22 30 (.i2b) 1 31 := by decide +kernel
theorem i22_31 : Io B22 31 (.bastore) 1 32 := by decide +kernel
theorem i22_32 : Io B22 32 (.iinc 1 1) 3 35 := by decide +kernel
theorem i22_35 : Io B22 35 (.iinc 3 1) 3 38 := by decide +kernel
theorem i22_38 : Io B22 38 (.iinc 5 1) 3 41 := by decide +kernel
theorem i22_41 : Io B22 41 (.goto (-38)) 3 44 := by decide +kernel
theorem i23_0 : Io B23 0 (.iload_n 2) 1 1 := by decide +kernel
theorem i23_1 : Io B23 1 (.newarray .byte) 2 3 := by decide +kernel
theorem i23_3 : Io B23 3 (.astore_n 3) 1 4 := by decide +kernel
theorem i23_4 : Io B23 4 (.aload_n 0) 1 5 := by decide +kernel
theorem i23_5 : Io B23 5 (.iload_n 1) 1 6 := by decide +kernel
theorem i23_6 : Io B23 6 (.aload_n 3) 1 7 := by decide +kernel
theorem i23_7 : Io B23 7 (.iconst 0) 1 8 := by decide +kernel
theorem i23_8 : Io B23 8 (.iload_n 2) 1 9 := by decide +kernel
theorem i23_9 : Io B23 9 (.invokestatic 115) 3 12 := by decide +kernel
theorem i23_12 : Io B23 12 (.istore 4) 2 14 := by decide +kernel
theorem i23_14 : Io B23 14 (.iload 4) 2 16 := by decide +kernel
theorem i23_16 : Io B23 16 (.iload_n 2) 1 17 := by decide +kernel
theorem i23_17 : Io B23 17 (.if_icmp .eq 40) 3 20 := by decide +kernel
theorem i23_20 : Io B23 20 (.aload_n 0) 1 21 := by decide +kernel
theorem i23_21 : Io B23 21 (.iload_n 1) 1 22 := by decide +kernel
theorem i23_22 : Io B23 22 (.iload_n 2) 1 23 := by decide +kernel
theorem i23_23 : Io B23 23 (.invokestatic 119) 3 26 := by decide +kernel
theorem i23_26 : Io B23 26 (.astore 5) 2 28 := by decide +kernel
theorem i23_28 : Io B23 28 (.aload 5) 2 30 := by decide +kernel
theorem i23_30 : Io B23 30 (.iload 4) 2 32 := by decide +kernel
theorem i23_32 : Io B23 32 (.invokestatic 71) 3 35 := by decide +kernel
theorem i23_35 : Io B23 35 (.sipush 255) 3 38 := by decide +kernel
theorem i23_38 : Io B23 38 (.if_icmp .gt 16) 3 41 := by decide +kernel
theorem i23_54 : Io B23 54 (.aload 5) 2 56 := by decide +kernel
theorem i23_56 : Io B23 56 (.areturn) 1 57 := by decide +kernel
theorem i24_0 : Io B24 0 (.iload_n 1) 1 1 := by decide +kernel
theorem i24_1 : Io B24 1 (.aload_n 0) 1 2 := by decide +kernel
theorem i24_2 : Io B24 2 (.arraylength) 1 3 := by decide +kernel
theorem i24_3 : Io B24 3 (.isub) 1 4 := by decide +kernel
theorem i24_4 : Io B24 4 (.bipush 31) 2 6 := by decide +kernel
theorem i24_6 : Io B24 6 (.iushr) 1 7 := by decide +kernel
theorem i24_7 : Io B24 7 (.i2b) 1 8 := by decide +kernel
theorem i24_8 : Io B24 8 (.ireturn) 1 9 := by decide +kernel
theorem i25_0 : Io B25 0 (.iload_n 2) 1 1 := by decide +kernel
theorem i25_1 : Io B25 1 (.iload_n 0) 1 2 := by decide +kernel
theorem i25_2 : Io B25 2 (.ior) 1 3 := by decide +kernel
theorem i25_3 : Io B25 3 (.iload_n 1) 1 4 := by decide +kernel
theorem i25_4 : Io B25 4 (.ior) 1 5 := by decide +kernel
theorem i25_5 : Io B25 5 (.ifCond .lt 10) 3 8 := by decide +kernel
theorem i25_8 : Io B25 8 (.iload_n 1) 1 9 := by decide +kernel
theorem i25_9 : Io B25 9 (.iload_n 2) 1 10 := by decide +kernel
theorem i25_10 : Io B25 10 (.iload_n 0) 1 11 := by decide +kernel
theorem i25_11 : Io B25 11 (.isub) 1 12 := by decide +kernel
theorem i25_12 : Io B25 12 (.if_icmp .le 11) 3 15 := by decide +kernel
theorem i25_23 : Io B25 23 (.iload_n 0) 1 24 := by decide +kernel
theorem i25_24 : Io B25 24 (.ireturn) 1 25 := by decide +kernel
theorem i26_0 : Io B26 0 (.iload_n 0) 1 1 := by decide +kernel
theorem i26_1 : Io B26 1 (.iload_n 1) 1 2 := by decide +kernel
theorem i26_2 : Io B26 2 (.iload_n 2) 1 3 := by decide +kernel
theorem i26_3 : Io B26 3 (.getstatic 1053) 3 6 := by decide +kernel
theorem i26_6 : Io B26 6 (.invokestatic 1065) 3 9 := by decide +kernel
theorem i26_9 : Io B26 9 (.ireturn) 1 10 := by decide +kernel
theorem i27_0 : Io B27 0 (.iload_n 0) 1 1 := by decide +kernel
theorem i27_1 : Io B27 1 (.iload_n 1) 1 2 := by decide +kernel
theorem i27_2 : Io B27 2 (.aload_n 2) 1 3 := by decide +kernel
theorem i27_3 : Io B27 3 (.invokestatic 48) 3 6 := by decide +kernel
theorem i27_6 : Io B27 6 (.invokestatic 419) 3 9 := by decide +kernel
theorem i27_9 : Io B27 9 (.pop) 1 10 := by decide +kernel
theorem i27_10 : Io B27 10 (.return_) 1 11 := by decide +kernel
theorem i28_0 : Io B28 0 (.iload_n 3) 1 1 := by decide +kernel
theorem i28_1 : Io B28 1 (.iload 4) 2 3 := by decide +kernel
theorem i28_3 : Io B28 3 (.aload_n 2) 1 4 := by decide +kernel
theorem i28_4 : Io B28 4 (.invokestatic 173) 3 7 := by decide +kernel
theorem i28_7 : Io B28 7 (.iconst 0) 1 8 := by decide +kernel
theorem i28_8 : Io B28 8 (.istore 5) 2 10 := by decide +kernel
theorem i28_10 : Io B28 10 (.iload 5) 2 12 := by decide +kernel
theorem i28_12 : Io B28 12 (.iload 4) 2 14 := by decide +kernel
theorem i28_14 : Io B28 14 (.if_icmp .ge 27) 3 17 := by decide +kernel
theorem i28_17 : Io B28 17 (.aload_n 2) 1 18 := by decide +kernel
theorem i28_18 : Io B28 18 (.iload_n 3) 1 19 := by decide +kernel
theorem i28_19 : Io B28 19 (.iinc 3 1) 3 22 := by decide +kernel
theorem i28_22 : Io B28 22 (.aload_n 0) 1 23 := by decide +kernel
theorem i28_23 : Io B28 23 (.iload_n 1) 1 24 := by decide +kernel
theorem i28_24 : Io B28 24 (.iinc 1 1) 3 27 := by decide +kernel
theorem i28_27 : Io B28 27 (.baload) 1 28 := by decide +kernel
theorem i28_28 : Io B28 28 (.sipush 255) 3 31 := by decide +kernel
theorem i28_31 : Io B28 31 (.iand) 1 32 := by decide +kernel
theorem i28_32 : Io B28 32 (.invokestatic 111) 3 35 := by decide +kernel
theorem i28_35 : Io B28 35 (.iinc 5 1) 3 38 := by decide +kernel
theorem i28_38 : Io B28 38 (.goto (-28)) 3 41 := by decide +kernel
theorem i28_41 : Io B28 41 (.return_) 1 42 := by decide +kernel
theorem i29_0 : Io B29 0 (.aload_n 0) 1 1 := by decide +kernel
theorem i29_1 : Io B29 1 (.iload_n 1) 1 2 := by decide +kernel
theorem i29_2 : Io B29 2 (.aload_n 2) 1 3 := by decide +kernel
theorem i29_3 : Io B29 3 (.iload_n 3) 1 4 := by decide +kernel
theorem i29_4 : Io B29 4 (.iload 4) 2 6 := by decide +kernel
theorem i29_6 : Io B29 6 (.invokestatic 240) 3 9 := by decide +kernel
theorem i29_9 : Io B29 9 (.return_) 1 10 := by decide +kernel
theorem i30_0 : Io B30 0 (.iload_n 0) 1 1 := by decide +kernel
theorem i30_1 : Io B30 1 (.iload_n 1) 1 2 := by decide +kernel
theorem i30_2 : Io B30 2 (.if_icmp .lt 7) 3 5 := by decide +kernel
theorem i30_5 : Io B30 5 (.iload_n 0) 1 6 := by decide +kernel
theorem i30_6 : Io B30 6 (.goto 4) 3 9 := by decide +kernel
theorem i30_9 : Io B30 9 (.iload_n 1) 1 10 := by decide +kernel
theorem i30_10 : Io B30 10 (.ireturn) 1 11 := by decide +kernel
theorem i31_0 : Io B31 0 (.iload_n 0) 1 1 := by decide +kernel
theorem i31_1 : Io B31 1 (.iload_n 1) 1 2 := by decide +kernel
theorem i31_2 : Io B31 2 (.if_icmp .gt 7) 3 5 := by decide +kernel
theorem i31_5 : Io B31 5 (.iload_n 0) 1 6 := by decide +kernel
theorem i31_6 : Io B31 6 (.goto 4) 3 9 := by decide +kernel
theorem i31_9 : Io B31 9 (.iload_n 1) 1 10 := by decide +kernel
theorem i31_10 : Io B31 10 (.ireturn) 1 11 := by decide +kernel
theorem i32_0 : Io B32 0 (.iload_n 0) 1 1 := by decide +kernel
theorem i32_1 : Io B32 1 (.iload_n 1) 1 2 := by decide +kernel
theorem i32_2 : Io B32 2 (.iload_n 2) 1 3 := by decide +kernel
theorem i32_3 : Io B32 3 (.invokestatic 194) 3 6 := by decide +kernel
theorem i32_6 : Io B32 6 (.iadd) 1 7 := by decide +kernel
theorem i32_7 : Io B32 7 (.istore_n 3) 1 8 := by decide +kernel
theorem i32_8 : Io B32 8 (.iconst 0) 1 9 := by decide +kernel
theorem i32_9 : Io B32 9 (.iload_n 3) 1 10 := by decide +kernel
theorem i32_10 : Io B32 10 (.if_icmp .ge 11) 3 13 := by decide +kernel
theorem i32_13 : Io B32 13 (.iload_n 3) 1 14 := by decide +kernel
theorem i32_14 : Io B32 14 (.ldc 200) 2 16 := by decide +kernel
theorem i32_16 : Io B32 16 (.if_icmp .gt 5) 3 19 := by decide +kernel
theorem i32_19 : Io B32 19 (.iload_n 3) 1 20 := by decide +kernel
theorem i32_20 : Io B32 20 (.ireturn) 1 21 := by decide +kernel
theorem i33_0 : Io B33 0 (.aload_n 0) 1 1 := by decide +kernel
theorem i33_1 : Io B33 1 (.getfield 15) 3 4 := by decide +kernel
theorem i33_4 : Io B33 4 (.arraylength) 1 5 := by decide +kernel
theorem i33_5 : Io B33 5 (.istore_n 2) 1 6 := by decide +kernel
theorem i33_6 : Io B33 6 (.iload_n 1) 1 7 := by decide +kernel
theorem i33_7 : Io B33 7 (.aload_n 0) 1 8 := by decide +kernel
theorem i33_8 : Io B33 8 (.getfield 22) 3 11 := by decide +kernel
theorem i33_11 : Io B33 11 (.ishl) 1 12 := by decide +kernel
theorem i33_12 : Io B33 12 (.istore_n 3) 1 13 := by decide +kernel
theorem i33_13 : Io B33 13 (.iload_n 3) 1 14 := by decide +kernel
theorem i33_14 : Io B33 14 (.iload_n 2) 1 15 := by decide +kernel
theorem i33_15 : Io B33 15 (.isub) 1 16 := by decide +kernel
theorem i33_16 : Io B33 16 (.istore 4) 2 18 := by decide +kernel
theorem i33_18 : Io B33 18 (.iload_n 2) 1 19 := by decide +kernel
theorem i33_19 : Io B33 19 (.iload 4) 2 21 := by decide +kernel
theorem i33_21 : Io B33 21 (.iload_n 2) 1 22 := by decide +kernel
theorem i33_22 : Io B33 22 (.iconst 2) 1 23 := by decide +kernel
theorem i33_23 : Io B33 23 (.aload_n 0) 1 24 := by decide +kernel
theorem i33_24 : Io B33 24 (.getfield 22) 3 27 := by decide +kernel
theorem i33_27 : Io B33 27 (.ishl) 1 28 := by decide +kernel
theorem i33_28 : Io B33 28 (.iadd) 1 29 := by decide +kernel
theorem i33_29 : Io B33 29 (.invokestatic 114) 3 32 := by decide +kernel
theorem i33_32 : Io B33 32 (.istore 5) 2 34 := by decide +kernel
theorem i33_34 : Io B33 34 (.iload 5) 2 36 := by decide +kernel
theorem i33_36 : Io B33 36 (.ldc 39) 2 38 := by decide +kernel
theorem i33_38 : Io B33 38 (.if_icmp .ne 13) 3 41 := by decide +kernel
theorem i33_51 : Io B33 51 (.iload 5) 2 53 := by decide +kernel
theorem i33_53 : Io B33 53 (.aload_n 0) 1 54 := by decide +kernel
theorem i33_54 : Io B33 54 (.getfield 22) 3 57 := by decide +kernel
theorem i33_57 : Io B33 57 (.ishr) 1 58 := by decide +kernel
theorem i33_58 : Io B33 58 (.ireturn) 1 59 := by decide +kernel
theorem i34_0 : Io B34 0 (.iload_n 1) 1 1 := by decide +kernel
theorem i34_1 : Io B34 1 (.aload_n 0) 1 2 := by decide +kernel
theorem i34_2 : Io B34 2 (.arraylength) 1 3 := by decide +kernel
theorem i34_3 : Io B34 3 (.if_icmp .ne 11) 3 6 := by decide +kernel
theorem i34_14 : Io B34 14 (.iload_n 1) 1 15 := by decide +kernel
theorem i34_15 : Io B34 15 (.newarray .byte) 2 17 := by decide +kernel
theorem i34_17 : Io B34 17 (.astore_n 2) 1 18 := by decide +kernel
theorem i34_18 : Io B34 18 (.aload_n 0) 1 19 := by decide +kernel
theorem i34_19 : Io B34 19 (.iconst 0) 1 20 := by decide +kernel
theorem i34_20 : Io B34 20 (.aload_n 2) 1 21 := by decide +kernel
theorem i34_21 : Io B34 21 (.iconst 0) 1 22 := by decide +kernel
theorem i34_22 : Io B34 22 (.aload_n 0) 1 23 := by decide +kernel
theorem i34_23 : Io B34 23 (.arraylength) 1 24 := by decide +kernel
theorem i34_24 : Io B34 24 (.iload_n 1) 1 25 := by decide +kernel
theorem i34_25 : Io B34 25 (.invokestatic 304) 3 28 := by decide +kernel
theorem i34_28 : Io B34 28 (.invokestatic 150) 3 31 := by decide +kernel
theorem i34_31 : Io B34 31 (.aload_n 2) 1 32 := by decide +kernel
theorem i34_32 : Io B34 32 (.areturn) 1 33 := by decide +kernel
theorem i35_0 : Io B35 0 (.aload_n 0) 1 1 := by decide +kernel
theorem i35_1 : Io B35 1 (.getfield 9) 3 4 := by decide +kernel
theorem i35_4 : Io B35 4 (.arraylength) 1 5 := by decide +kernel
theorem i35_5 : Io B35 5 (.aload_n 0) 1 6 := by decide +kernel
theorem i35_6 : Io B35 6 (.invokevirtual 335) 3 9 := by decide +kernel
theorem i35_9 : Io B35 9 (.ishr) 1 10 := by decide +kernel
theorem i35_10 : Io B35 10 (.ireturn) 1 11 := by decide +kernel
theorem i36_0 : Io B36 0 (.getstatic 18) 3 3 := by decide +kernel
theorem i36_3 : Io B36 3 (.ifCond .eq 14) 3 6 := by decide +kernel
theorem i36_6 : Io B36 6 (.aload_n 0) 1 7 := by decide +kernel
theorem i36_7 : Io B36 7 (.getfield 22) 3 10 := by decide +kernel
theorem i36_10 : Io B36 10 (.ifCond .ne 7) 3 13 := by decide +kernel
theorem i36_13 : Io B36 13 (.iconst 1) 1 14 := by decide +kernel
theorem i36_14 : Io B36 14 (.goto 4) 3 17 := by decide +kernel
theorem i36_17 : Io B36 17 (.iconst 0) 1 18 := by decide +kernel
theorem i36_18 : Io B36 18 (.ireturn) 1 19 := by decide +kernel
theorem i37_0 : Io B37 0 (.aload_n 0) 1 1 := by decide +kernel
theorem i37_1 : Io B37 1 (.invokevirtual 83) 3 4 := by decide +kernel
theorem i37_4 : Io B37 4 (.ifCond .ne 4) 3 7 := by decide +kernel
theorem i37_7 : Io B37 7 (.return_) 1 8 := by decide +kernel
theorem i37_8 : Io B37 8 (.aload_n 0) 1 9 := by decide +kernel
theorem i37_9 : Io B37 9 (.getfield 15) 3 12 := by decide +kernel
theorem i37_12 : Io B37 12 (.arraylength) 1 13 := by decide +kernel
theorem i37_13 : Io B37 13 (.invokestatic 26) 3 16 := by decide +kernel
theorem i37_16 : Io B37 16 (.astore_n 1) 1 17 := by decide +kernel
theorem i37_17 : Io B37 17 (.aload_n 0) 1 18 := by decide +kernel
theorem i37_18 : Io B37 18 (.getfield 15) 3 21 := by decide +kernel
theorem i37_21 : Io B37 21 (.iconst 0) 1 22 := by decide +kernel
theorem i37_22 : Io B37 22 (.aload_n 1) 1 23 := by decide +kernel
theorem i37_23 : Io B37 23 (.iconst 0) 1 24 := by decide +kernel
theorem i37_24 : Io B37 24 (.aload_n 0) 1 25 := by decide +kernel
theorem i37_25 : Io B37 25 (.getfield 79) 3 28 := by decide +kernel
theorem i37_28 : Io B37 28 (.invokestatic 125) 3 31 := by decide +kernel
theorem i37_31 : Io B37 31 (.aload_n 0) 1 32 := by decide +kernel
theorem i37_32 : Io B37 32 (.aload_n 1) 1 33 := by decide +kernel
theorem i37_33 : Io B37 33 (.putfield 15) 3 36 := by decide +kernel
theorem i37_36 : Io B37 36 (.aload_n 0) 1 37 := by decide +kernel
theorem i37_37 : Io B37 37 (.iconst 1) 1 38 := by decide +kernel
theorem i37_38 : Io B37 38 (.putfield 22) 3 41 := by decide +kernel
theorem i37_41 : Io B37 41 (.return_) 1 42 := by decide +kernel
theorem i38_0 : Io B38 0 (.aload_n 0) 1 1 := by decide +kernel
theorem i38_1 : Io B38 1 (.getfield 15) 3 4 := by decide +kernel
theorem i38_4 : Io B38 4 (.areturn) 1 5 := by decide +kernel
theorem i39_0 : Io B39 0 (.aload_n 0) 1 1 := by decide +kernel
theorem i39_1 : Io B39 1 (.getfield 79) 3 4 := by decide +kernel
theorem i39_4 : Io B39 4 (.ireturn) 1 5 := by decide +kernel
theorem i40_0 : Io B40 0 (.aload_n 0) 1 1 := by decide +kernel
theorem i40_1 : Io B40 1 (.invokespecial 343) 3 4 := by decide +kernel
theorem i40_4 : Io B40 4 (.ireturn) 1 5 := by decide +kernel
theorem i41_0 : Io B41 0 (.iload_n 1) 1 1 := by decide +kernel
theorem i41_1 : Io B41 1 (.iload_n 0) 1 2 := by decide +kernel
theorem i41_2 : Io B41 2 (.if_icmp .ge 35) 3 5 := by decide +kernel
theorem i41_37 : Io B41 37 (.return_) 1 38 := by decide +kernel
theorem i42_0 : Io B42 0 (.iload_n 1) 1 1 := by decide +kernel
theorem i42_1 : Io B42 1 (.iload_n 2) 1 2 := by decide +kernel
theorem i42_2 : Io B42 2 (.invokestatic 343) 3 5 := by decide +kernel
theorem i42_5 : Io B42 5 (.iload_n 2) 1 6 := by decide +kernel
theorem i42_6 : Io B42 6 (.iload_n 1) 1 7 := by decide +kernel
theorem i42_7 : Io B42 7 (.isub) 1 8 := by decide +kernel
theorem i42_8 : Io B42 8 (.istore_n 3) 1 9 := by decide +kernel
theorem i42_9 : Io B42 9 (.iload_n 3) 1 10 := by decide +kernel
theorem i42_10 : Io B42 10 (.newarray .byte) 2 12 := by decide +kernel
theorem i42_12 : Io B42 12 (.astore 4) 2 14 := by decide +kernel
theorem i42_14 : Io B42 14 (.aload_n 0) 1 15 := by decide +kernel
theorem i42_15 : Io B42 15 (.iload_n 1) 1 16 := by decide +kernel
theorem i42_16 : Io B42 16 (.aload 4) 2 18 := by decide +kernel
theorem i42_18 : Io B42 18 (.iconst 0) 1 19 := by decide +kernel
theorem i42_19 : Io B42 19 (.aload_n 0) 1 20 := by decide +kernel
theorem i42_20 : Io B42 20 (.arraylength) 1 21 := by decide +kernel
theorem i42_21 : Io B42 21 (.iload_n 1) 1 22 := by decide +kernel
theorem i42_22 : Io B42 22 (.isub) 1 23 := by decide +kernel
theorem i42_23 : Io B42 23 (.iload_n 3) 1 24 := by decide +kernel
theorem i42_24 : Io B42 24 (.invokestatic 304) 3 27 := by decide +kernel
theorem i42_27 : Io B42 27 (.invokestatic 150) 3 30 := by decide +kernel
theorem i42_30 : Io B42 30 (.aload 4) 2 32 := by decide +kernel
theorem i42_32 : Io B42 32 (.areturn) 1 33 := by decide +kernel
theorem i43_0 : Io B43 0 (.iload_n 1) 1 1 := by decide +kernel
theorem i43_1 : Io B43 1 (.ifCond .ne 9) 3 4 := by decide +kernel
theorem i43_4 : Io B43 4 (.iload_n 2) 1 5 := by decide +kernel
theorem i43_5 : Io B43 5 (.aload_n 0) 1 6 := by decide +kernel
theorem i43_6 : Io B43 6 (.arraylength) 1 7 := by decide +kernel
theorem i43_7 : Io B43 7 (.if_icmp .eq 10) 3 10 := by decide +kernel
theorem i43_10 : Io B43 10 (.aload_n 0) 1 11 := by decide +kernel
theorem i43_11 : Io B43 11 (.iload_n 1) 1 12 := by decide +kernel
theorem i43_12 : Io B43 12 (.iload_n 2) 1 13 := by decide +kernel
theorem i43_13 : Io B43 13 (.invokestatic 339) 3 16 := by decide +kernel
theorem i43_16 : Io B43 16 (.areturn) 1 17 := by decide +kernel
theorem i44_0 : Io B44 0 (.aload_n 0) 1 1 := by decide +kernel
theorem i44_1 : Io B44 1 (.invokespecial 1) 3 4 := by decide +kernel
theorem i44_4 : Io B44 4 (.aload_n 1) 1 5 := by decide +kernel
theorem i44_5 : Io B44 5 (.invokevirtual 552) 3 8 := by decide +kernel
theorem i44_8 : Io B44 8 (.astore_n 3) 1 9 := by decide +kernel
theorem i44_9 : Io B44 9 (.aload_n 1) 1 10 := by decide +kernel
theorem i44_10 : Io B44 10 (.invokevirtual 549) 3 13 := by decide +kernel
theorem i44_13 : Io B44 13 (.istore 4) 2 15 := by decide +kernel
theorem i44_15 : Io B44 15 (.aload_n 1) 1 16 := by decide +kernel
theorem i44_16 : Io B44 16 (.invokevirtual 1047) 3 19 := by decide +kernel
theorem i44_19 : Io B44 19 (.ifCond .eq 22) 3 22 := by decide +kernel
theorem i44_22 : Io B44 22 (.aload_n 0) 1 23 := by decide +kernel
theorem i44_23 : Io B44 23 (.iconst 0) 1 24 := by decide +kernel
theorem i44_24 : Io B44 24 (.putfield 15) 3 27 := by decide +kernel
theorem i44_27 : Io B44 27 (.aload_n 0) 1 28 := by decide +kernel
theorem i44_28 : Io B44 28 (.aload_n 3) 1 29 := by decide +kernel
theorem i44_29 : Io B44 29 (.iconst 0) 1 30 := by decide +kernel
theorem i44_30 : Io B44 30 (.iload 4) 2 32 := by decide +kernel
theorem i44_32 : Io B44 32 (.invokestatic 54) 3 35 := by decide +kernel
theorem i44_35 : Io B44 35 (.putfield 9) 3 38 := by decide +kernel
theorem i44_38 : Io B44 38 (.goto 59) 3 41 := by decide +kernel
theorem i44_41 : Io B44 41 (.getstatic 38) 3 44 := by decide +kernel
theorem i44_44 : Io B44 44 (.ifCond .eq 35) 3 47 := by decide +kernel
theorem i44_47 : Io B44 47 (.aload_n 1) 1 48 := by decide +kernel
theorem i44_48 : Io B44 48 (.getfield 1048) 3 51 := by decide +kernel
theorem i44_51 : Io B44 51 (.ifCond .eq 28) 3 54 := by decide +kernel
theorem i44_79 : Io B44 79 (.aload_n 0) 1 80 := by decide +kernel
theorem i44_80 : Io B44 80 (.iconst 1) 1 81 := by decide +kernel
theorem i44_81 : Io B44 81 (.putfield 15) 3 84 := by decide +kernel
theorem i44_84 : Io B44 84 (.aload_n 0) 1 85 := by decide +kernel
theorem i44_85 : Io B44 85 (.aload_n 3) 1 86 := by decide +kernel
theorem i44_86 : Io B44 86 (.iconst 0) 1 87 := by decide +kernel
theorem i44_87 : Io B44 87 (.iload 4) 2 89 := by decide +kernel
theorem i44_89 : Io B44 89 (.iconst 1) 1 90 := by decide +kernel
theorem i44_90 : Io B44 90 (.ishl) 1 91 := by decide +kernel
theorem i44_91 : Io B44 91 (.invokestatic 54) 3 94 := by decide +kernel
theorem i44_94 : Io B44 94 (.putfield 9) 3 97 := by decide +kernel
theorem i44_97 : Io B44 97 (.return_) 1 98 := by decide +kernel
theorem i45_0 : Io B45 0 (.aload_n 0) 1 1 := by decide +kernel
theorem i45_1 : Io B45 1 (.aload_n 1) 1 2 := by decide +kernel
theorem i45_2 : Io B45 2 (.aconst_null) 1 3 := by decide +kernel
theorem i45_3 : Io B45 3 (.invokespecial 489) 3 6 := by decide +kernel
theorem i45_6 : Io B45 6 (.return_) 1 7 := by decide +kernel
theorem i46_0 : Io B46 0 (.new 18) 3 3 := by decide +kernel
theorem i46_3 : Io B46 3 (.dup) 1 4 := by decide +kernel
theorem i46_4 : Io B46 4 (.aload_n 0) 1 5 := by decide +kernel
theorem i46_5 : Io B46 5 (.invokespecial 137) 3 8 := by decide +kernel
theorem i46_8 : Io B46 8 (.areturn) 1 9 := by decide +kernel
theorem i47_0 : Io B47 0 (.aload_n 0) 1 1 := by decide +kernel
theorem i47_1 : Io B47 1 (.invokespecial 1) 3 4 := by decide +kernel
theorem i47_4 : Io B47 4 (.aload_n 0) 1 5 := by decide +kernel
theorem i47_5 : Io B47 5 (.aload_n 0) 1 6 := by decide +kernel
theorem i47_6 : Io B47 6 (.putfield 7) 3 9 := by decide +kernel
theorem i47_9 : Io B47 9 (.aload_n 0) 1 10 := by decide +kernel
theorem i47_10 : Io B47 10 (.getstatic 13) 3 13 := by decide +kernel
theorem i47_13 : Io B47 13 (.putfield 17) 3 16 := by decide +kernel
theorem i47_16 : Io B47 16 (.aload_n 0) 1 17 := by decide +kernel
theorem i47_17 : Io B47 17 (.getstatic 20) 3 20 := by decide +kernel
theorem i47_20 : Io B47 20 (.putfield 24) 3 23 := by decide +kernel
theorem i47_23 : Io B47 23 (.aload_n 0) 1 24 := by decide +kernel
theorem i47_24 : Io B47 24 (.invokevirtual 27) 3 27 := by decide +kernel
theorem i47_27 : Io B47 27 (.pop) 1 28 := by decide +kernel
theorem i47_28 : Io B47 28 (.aload_n 0) 1 29 := by decide +kernel
theorem i47_29 : Io B47 29 (.aload_n 1) 1 30 := by decide +kernel
theorem i47_30 : Io B47 30 (.putfield 31) 3 33 := by decide +kernel
theorem i47_33 : Io B47 33 (.return_) 1 34 := by decide +kernel
theorem i48_0 : Io B48 0 (.aload_n 0) 1 1 := by decide +kernel
theorem i48_1 : Io B48 1 (.aload_n 1) 1 2 := by decide +kernel
theorem i48_2 : Io B48 2 (.invokespecial 7) 3 5 := by decide +kernel
theorem i48_5 : Io B48 5 (.return_) 1 6 := by decide +kernel
theorem i49_0 : Io B49 0 (.aload_n 0) 1 1 := by decide +kernel
theorem i49_1 : Io B49 1 (.aload_n 1) 1 2 := by decide +kernel
theorem i49_2 : Io B49 2 (.invokespecial 7) 3 5 := by decide +kernel
theorem i49_5 : Io B49 5 (.return_) 1 6 := by decide +kernel
theorem i50_0 : Io B50 0 (.aload_n 0) 1 1 := by decide +kernel
theorem i50_1 : Io B50 1 (.aload_n 1) 1 2 := by decide +kernel
theorem i50_2 : Io B50 2 (.invokespecial 7) 3 5 := by decide +kernel
theorem i50_5 : Io B50 5 (.return_) 1 6 := by decide +kernel
theorem i51_0 : Io B51 0 (.new 13) 3 3 := by decide +kernel
theorem i51_3 : Io B51 3 (.dup) 1 4 := by decide +kernel
theorem i51_4 : Io B51 4 (.new 15) 3 7 := by decide +kernel
theorem i51_7 : Io B51 7 (.dup) 1 8 := by decide +kernel
theorem i51_8 : Io B51 8 (.invokespecial 17) 3 11 := by decide +kernel
theorem i51_11 : Io B51 11 (.aload_n 0) 1 12 := by decide +kernel
theorem i51_12 : Io B51 12 (.invokevirtual 18) 3 15 := by decide +kernel
theorem i51_15 : Io B51 15 (.ldc 22) 2 17 := by decide +kernel
theorem i51_17 : Io B51 17 (.invokevirtual 18) 3 20 := by decide +kernel
theorem i51_20 : Io B51 20 (.invokevirtual 24) 3 23 := by decide +kernel
theorem i51_23 : Io B51 23 (.invokespecial 28) 3 26 := by decide +kernel
theorem i51_26 : Io B51 26 (.areturn) 1 27 := by decide +kernel
theorem i52_0 : Io B52 0 (.iload_n 0) 1 1 := by decide +kernel
theorem i52_1 : Io B52 1 (.ifCond .ne 6) 3 4 := by decide +kernel
theorem i52_4 : Io B52 4 (.ldc 42) 2 6 := by decide +kernel
theorem i52_6 : Io B52 6 (.areturn) 1 7 := by decide +kernel
theorem i52_7 : Io B52 7 (.iload_n 0) 1 8 := by decide +kernel
theorem i52_8 : Io B52 8 (.iconst 1) 1 9 := by decide +kernel
theorem i52_9 : Io B52 9 (.if_icmp .ne 128) 3 12 := by decide +kernel
theorem i52_12 : Io B52 12 (.new 7) 3 15 := by decide +kernel
theorem i52_15 : Io B52 15 (.dup) 1 16 := by decide +kernel
theorem i52_16 : Io B52 16 (.bipush 20) 2 18 := by decide +kernel
theorem i52_18 : Io B52 18 (.newarray .char) 2 20 := by decide +kernel
theorem i52_20 : Io B52 20 (.dup) 1 21 := by decide +kernel
theorem i52_21 : Io B52 21 (.iconst 0) 1 22 := by decide +kernel
theorem i52_22 : Io B52 22 (.iload_n 1) 1 23 := by decide +kernel
theorem i52_23 : Io B52 23 (.castore) 1 24 := by decide +kernel
theorem i52_24 : Io B52 24 (.dup) 1 25 := by decide +kernel
theorem i52_25 : Io B52 25 (.iconst 1) 1 26 := by decide +kernel
theorem i52_26 : Io B52 26 (.bipush 32) 2 28 := by decide +kernel
theorem i52_28 : Io B52 28 (.castore) 1 29 := by decide +kernel
theorem i52_29 : Io B52 29 (.dup) 1 30 := by decide +kernel
theorem i52_30 : Io B52 30 (.iconst 2) 1 31 := by decide +kernel
theorem i52_31 : Io B52 31 (.bipush 109) 2 33 := by decide +kernel
theorem i52_33 : Io B52 33 (.castore) 1 34 := by decide +kernel
theorem i52_34 : Io B52 34 (.dup) 1 35 := by decide +kernel
theorem i52_35 : Io B52 35 (.iconst 3) 1 36 := by decide +kernel
theorem i52_36 : Io B52 36 (.bipush 117) 2 38 := by decide +kernel
theorem i52_38 : Io B52 38 (.castore) 1 39 := by decide +kernel
theorem i52_39 : Io B52 39 (.dup) 1 40 := by decide +kernel
theorem i52_40 : Io B52 40 (.iconst 4) 1 41 := by decide +kernel
theorem i52_41 : Io B52 41 (.bipush 115) 2 43 := by decide +kernel
theorem i52_43 : Io B52 43 (.castore) 1 44 := by decide +kernel
theorem i52_44 : Io B52 44 (.dup) 1 45 := by decide +kernel
theorem i52_45 : Io B52 45 (.iconst 5) 1 46 := by decide +kernel
theorem i52_46 : Io B52 46 (.bipush 116) 2 48 := by decide +kernel
theorem i52_48 : Io B52 48 (.castore) 1 49 := by decide +kernel
theorem i52_49 : Io B52 49 (.dup) 1 50 := by decide +kernel
theorem i52_50 : Io B52 50 (.bipush 6) 2 52 := by decide +kernel
theorem i52_52 : Io B52 52 (.bipush 32) 2 54 := by decide +kernel
theorem i52_54 : Io B52 54 (.castore) 1 55 := by decide +kernel
theorem i52_55 : Io B52 55 (.dup) 1 56 := by decide +kernel
theorem i52_56 : Io B52 56 (.bipush 7) 2 58 := by decide +kernel
theorem i52_58 : Io B52 58 (.bipush 98) 2 60 := by decide +kernel
theorem i52_60 : Io B52 60 (.castore) 1 61 := by decide +kernel
theorem i52_61 : Io B52 61 (.dup) 1 62 := by decide +kernel
theorem i52_62 : Io B52 62 (.bipush 8) 2 64 := by decide +kernel
theorem i52_64 : Io B52 64 (.bipush 101) 2 66 := by decide +kernel
theorem i52_66 : Io B52 66 (.castore) 1 67 := by decide +kernel
theorem i52_67 : Io B52 67 (.dup) 1 68 := by decide +kernel
theorem i52_68 : Io B52 68 (.bipush 9) 2 70 := by decide +kernel
theorem i52_70 : Io B52 70 (.bipush 32) 2 72 := by decide +kernel
theorem i52_72 : Io B52 72 (.castore) 1 73 := by decide +kernel
theorem i52_73 : Io B52 73 (.dup) 1 74 := by decide +kernel
theorem i52_74 : Io B52 74 (.bipush 10) 2 76 := by decide +kernel
theorem i52_76 : Io B52 76 (.bipush 97) 2 78 := by decide +kernel
theorem i52_78 : Io B52 78 (.castore) 1 79 := by decide +kernel
theorem i52_79 : Io B52 79 (.dup) 1 80 := by decide +kernel
theorem i52_80 : Io B52 80 (.bipush 11) 2 82 := by decide +kernel
theorem i52_82 : Io B52 82 (.bipush 98) 2 84 := by decide +kernel
theorem i52_84 : Io B52 84 (.castore) 1 85 := by decide +kernel
theorem i52_85 : Io B52 85 (.dup) 1 86 := by decide +kernel
theorem i52_86 : Io B52 86 (.bipush 12) 2 88 := by decide +kernel
theorem i52_88 : Io B52 88 (.bipush 111) 2 90 := by decide +kernel
theorem i52_90 : Io B52 90 (.castore) 1 91 := by decide +kernel
theorem i52_91 : Io B52 91 (.dup) 1 92 := by decide +kernel
theorem i52_92 : Io B52 92 (.bipush 13) 2 94 := by decide +kernel
theorem i52_94 : Io B52 94 (.bipush 118) 2 96 := by decide +kernel
theorem i52_96 : Io B52 96 (.castore) 1 97 := by decide +kernel
theorem i52_97 : Io B52 97 (.dup) 1 98 := by decide +kernel
theorem i52_98 : Io B52 98 (.bipush 14) 2 100 := by decide +kernel
theorem i52_100 : Io B52 100 (.bipush 101) 2 102 := by decide +kernel
theorem i52_102 : Io B52 102 (.castore) 1 103 := by decide +kernel
theorem i52_103 : Io B52 103 (.dup) 1 104 := by decide +kernel
theorem i52_104 : Io B52 104 (.bipush 15) 2 106 := by decide +kernel
theorem i52_106 : Io B52 106 (.bipush 32) 2 108 := by decide +kernel
theorem i52_108 : Io B52 108 (.castore) 1 109 := by decide +kernel
theorem i52_109 : Io B52 109 (.dup) 1 110 := by decide +kernel
theorem i52_110 : Io B52 110 (.bipush 16) 2 112 := by decide +kernel
theorem i52_112 : Io B52 112 (.bipush 122) 2 114 := by decide +kernel
theorem i52_114 : Io B52 114 (.castore) 1 115 := by decide +kernel
theorem i52_115 : Io B52 115 (.dup) 1 116 := by decide +kernel
theorem i52_116 : Io B52 116 (.bipush 17) 2 118 := by decide +kernel
theorem i52_118 : Io B52 118 (.bipush 101) 2 120 := by decide +kernel
theorem i52_120 : Io B52 120 (.castore) 1 121 := by decide +kernel
theorem i52_121 : Io B52 121 (.dup) 1 122 := by decide +kernel
theorem i52_122 : Io B52 122 (.bipush 18) 2 124 := by decide +kernel
theorem i52_124 : Io B52 124 (.bipush 114) 2 126 := by decide +kernel
theorem i52_126 : Io B52 126 (.castore) 1 127 := by decide +kernel
theorem i52_127 : Io B52 127 (.dup) 1 128 := by decide +kernel
theorem i52_128 : Io B52 128 (.bipush 19) 2 130 := by decide +kernel
theorem i52_130 : Io B52 130 (.bipush 111) 2 132 := by decide +kernel
theorem i52_132 : Io B52 132 (.castore) 1 133 := by decide +kernel
theorem i52_133 : Io B52 133 (.invokespecial 9) 3 136 := by decide +kernel
theorem i52_136 : Io B52 136 (.areturn) 1 137 := by decide +kernel
theorem i52_137 : Io B52 137 (.iload_n 0) 1 138 := by decide +kernel
theorem i52_138 : Io B52 138 (.iconst 2) 1 139 := by decide +kernel
theorem i52_139 : Io B52 139 (.if_icmp .ne 133) 3 142 := by decide +kernel
theorem i52_142 : Io B52 142 (.new 7) 3 145 := by decide +kernel
theorem i52_145 : Io B52 145 (.dup) 1 146 := by decide +kernel
theorem i52_146 : Io B52 146 (.bipush 21) 2 148 := by decide +kernel
theorem i52_148 : Io B52 148 (.newarray .char) 2 150 := by decide +kernel
theorem i52_150 : Io B52 150 (.dup) 1 151 := by decide +kernel
theorem i52_151 : Io B52 151 (.iconst 0) 1 152 := by decide +kernel
theorem i52_152 : Io B52 152 (.iload_n 1) 1 153 := by decide +kernel
theorem i52_153 : Io B52 153 (.castore) 1 154 := by decide +kernel
theorem i52_154 : Io B52 154 (.dup) 1 155 := by decide +kernel
theorem i52_155 : Io B52 155 (.iconst 1) 1 156 := by decide +kernel
theorem i52_156 : Io B52 156 (.iload_n 2) 1 157 := by decide +kernel
theorem i52_157 : Io B52 157 (.castore) 1 158 := by decide +kernel
theorem i52_158 : Io B52 158 (.dup) 1 159 := by decide +kernel
theorem i52_159 : Io B52 159 (.iconst 2) 1 160 := by decide +kernel
theorem i52_160 : Io B52 160 (.bipush 32) 2 162 := by decide +kernel
theorem i52_162 : Io B52 162 (.castore) 1 163 := by decide +kernel
theorem i52_163 : Io B52 163 (.dup) 1 164 := by decide +kernel
theorem i52_164 : Io B52 164 (.iconst 3) 1 165 := by decide +kernel
theorem i52_165 : Io B52 165 (.bipush 109) 2 167 := by decide +kernel
theorem i52_167 : Io B52 167 (.castore) 1 168 := by decide +kernel
theorem i52_168 : Io B52 168 (.dup) 1 169 := by decide +kernel
theorem i52_169 : Io B52 169 (.iconst 4) 1 170 := by decide +kernel
theorem i52_170 : Io B52 170 (.bipush 117) 2 172 := by decide +kernel
theorem i52_172 : Io B52 172 (.castore) 1 173 := by decide +kernel
theorem i52_173 : Io B52 173 (.dup) 1 174 := by decide +kernel
theorem i52_174 : Io B52 174 (.iconst 5) 1 175 := by decide +kernel
theorem i52_175 : Io B52 175 (.bipush 115) 2 177 := by decide +kernel
theorem i52_177 : Io B52 177 (.castore) 1 178 := by decide +kernel
theorem i52_178 : Io B52 178 (.dup) 1 179 := by decide +kernel
theorem i52_179 : Io B52 179 (.bipush 6) 2 181 := by decide +kernel
theorem i52_181 : Io B52 181 (.bipush 116) 2 183 := by decide +kernel
theorem i52_183 : Io B52 183 (.castore) 1 184 := by decide +kernel
theorem i52_184 : Io B52 184 (.dup) 1 185 := by decide +kernel
theorem i52_185 : Io B52 185 (.bipush 7) 2 187 := by decide +kernel
theorem i52_187 : Io B52 187 (.bipush 32) 2 189 := by decide +kernel
theorem i52_189 : Io B52 189 (.castore) 1 190 := by decide +kernel
theorem i52_190 : Io B52 190 (.dup) 1 191 := by decide +kernel
theorem i52_191 : Io B52 191 (.bipush 8) 2 193 := by decide +kernel
theorem i52_193 : Io B52 193 (.bipush 98) 2 195 := by decide +kernel
theorem i52_195 : Io B52 195 (.castore) 1 196 := by decide +kernel
theorem i52_196 : Io B52 196 (.dup) 1 197 := by decide +kernel
theorem i52_197 : Io B52 197 (.bipush 9) 2 199 := by decide +kernel
theorem i52_199 : Io B52 199 (.bipush 101) 2 201 := by decide +kernel
theorem i52_201 : Io B52 201 (.castore) 1 202 := by decide +kernel
theorem i52_202 : Io B52 202 (.dup) 1 203 := by decide +kernel
theorem i52_203 : Io B52 203 (.bipush 10) 2 205 := by decide +kernel
theorem i52_205 : Io B52 205 (.bipush 32) 2 207 := by decide +kernel
theorem i52_207 : Io B52 207 (.castore) 1 208 := by decide +kernel
theorem i52_208 : Io B52 208 (.dup) 1 209 := by decide +kernel
theorem i52_209 : Io B52 209 (.bipush 11) 2 211 := by decide +kernel
theorem i52_211 : Io B52 211 (.bipush 97) 2 213 := by decide +kernel
theorem i52_213 : Io B52 213 (.castore) 1 214 := by decide +kernel
theorem i52_214 : Io B52 214 (.dup) 1 215 := by decide +kernel
theorem i52_215 : Io B52 215 (.bipush 12) 2 217 := by decide +kernel
theorem i52_217 : Io B52 217 (.bipush 98) 2 219 := by decide +kernel
theorem i52_219 : Io B52 219 (.castore) 1 220 := by decide +kernel
theorem i52_220 : Io B52 220 (.dup) 1 221 := by decide +kernel
theorem i52_221 : Io B52 221 (.bipush 13) 2 223 := by decide +kernel
theorem i52_223 : Io B52 223 (.bipush 111) 2 225 := by decide +kernel
theorem i52_225 : Io B52 225 (.castore) 1 226 := by decide +kernel
theorem i52_226 : Io B52 226 (.dup) 1 227 := by decide +kernel
theorem i52_227 : Io B52 227 (.bipush 14) 2 229 := by decide +kernel
theorem i52_229 : Io B52 229 (.bipush 118) 2 231 := by decide +kernel
theorem i52_231 : Io B52 231 (.castore) 1 232 := by decide +kernel
theorem i52_232 : Io B52 232 (.dup) 1 233 := by decide +kernel
theorem i52_233 : Io B52 233 (.bipush 15) 2 235 := by decide +kernel
theorem i52_235 : Io B52 235 (.bipush 101) 2 237 := by decide +kernel
theorem i52_237 : Io B52 237 (.castore) 1 238 := by decide +kernel
theorem i52_238 : Io B52 238 (.dup) 1 239 := by decide +kernel
theorem i52_239 : Io B52 239 (.bipush 16) 2 241 := by decide +kernel
theorem i52_241 : Io B52 241 (.bipush 32) 2 243 := by decide +kernel
theorem i52_243 : Io B52 243 (.castore) 1 244 := by decide +kernel
theorem i52_244 : Io B52 244 (.dup) 1 245 := by decide +kernel
theorem i52_245 : Io B52 245 (.bipush 17) 2 247 := by decide +kernel
theorem i52_247 : Io B52 247 (.bipush 122) 2 249 := by decide +kernel
theorem i52_249 : Io B52 249 (.castore) 1 250 := by decide +kernel
theorem i52_250 : Io B52 250 (.dup) 1 251 := by decide +kernel
theorem i52_251 : Io B52 251 (.bipush 18) 2 253 := by decide +kernel
theorem i52_253 : Io B52 253 (.bipush 101) 2 255 := by decide +kernel
theorem i52_255 : Io B52 255 (.castore) 1 256 := by decide +kernel
theorem i52_256 : Io B52 256 (.dup) 1 257 := by decide +kernel
theorem i52_257 : Io B52 257 (.bipush 19) 2 259 := by decide +kernel
theorem i52_259 : Io B52 259 (.bipush 114) 2 261 := by decide +kernel
theorem i52_261 : Io B52 261 (.castore) 1 262 := by decide +kernel
theorem i52_262 : Io B52 262 (.dup) 1 263 := by decide +kernel
theorem i52_263 : Io B52 263 (.bipush 20) 2 265 := by decide +kernel
theorem i52_265 : Io B52 265 (.bipush 111) 2 267 := by decide +kernel
theorem i52_267 : Io B52 267 (.castore) 1 268 := by decide +kernel
theorem i52_268 : Io B52 268 (.invokespecial 9) 3 271 := by decide +kernel
theorem i52_271 : Io B52 271 (.areturn) 1 272 := by decide +kernel
theorem i52_272 : Io B52 272 (.new 7) 3 275 := by decide +kernel
theorem i52_275 : Io B52 275 (.dup) 1 276 := by decide +kernel
theorem i52_276 : Io B52 276 (.bipush 22) 2 278 := by decide +kernel
theorem i52_278 : Io B52 278 (.newarray .char) 2 280 := by decide +kernel
theorem i52_280 : Io B52 280 (.dup) 1 281 := by decide +kernel
theorem i52_281 : Io B52 281 (.iconst 0) 1 282 := by decide +kernel
theorem i52_282 : Io B52 282 (.iload_n 1) 1 283 := by decide +kernel
theorem i52_283 : Io B52 283 (.castore) 1 284 := by decide +kernel
theorem i52_284 : Io B52 284 (.dup) 1 285 := by decide +kernel
theorem i52_285 : Io B52 285 (.iconst 1) 1 286 := by decide +kernel
theorem i52_286 : Io B52 286 (.iload_n 2) 1 287 := by decide +kernel
theorem i52_287 : Io B52 287 (.castore) 1 288 := by decide +kernel
theorem i52_288 : Io B52 288 (.dup) 1 289 := by decide +kernel
theorem i52_289 : Io B52 289 (.iconst 2) 1 290 := by decide +kernel
theorem i52_290 : Io B52 290 (.iload_n 3) 1 291 := by decide +kernel
theorem i52_291 : Io B52 291 (.castore) 1 292 := by decide +kernel
theorem i52_292 : Io B52 292 (.dup) 1 293 := by decide +kernel
theorem i52_293 : Io B52 293 (.iconst 3) 1 294 := by decide +kernel
theorem i52_294 : Io B52 294 (.bipush 32) 2 296 := by decide +kernel
theorem i52_296 : Io B52 296 (.castore) 1 297 := by decide +kernel
theorem i52_297 : Io B52 297 (.dup) 1 298 := by decide +kernel
theorem i52_298 : Io B52 298 (.iconst 4) 1 299 := by decide +kernel
theorem i52_299 : Io B52 299 (.bipush 109) 2 301 := by decide +kernel
theorem i52_301 : Io B52 301 (.castore) 1 302 := by decide +kernel
theorem i52_302 : Io B52 302 (.dup) 1 303 := by decide +kernel
theorem i52_303 : Io B52 303 (.iconst 5) 1 304 := by decide +kernel
theorem i52_304 : Io B52 304 (.bipush 117) 2 306 := by decide +kernel
theorem i52_306 : Io B52 306 (.castore) 1 307 := by decide +kernel
theorem i52_307 : Io B52 307 (.dup) 1 308 := by decide +kernel
theorem i52_308 : Io B52 308 (.bipush 6) 2 310 := by decide +kernel
theorem i52_310 : Io B52 310 (.bipush 115) 2 312 := by decide +kernel
theorem i52_312 : Io B52 312 (.castore) 1 313 := by decide +kernel
theorem i52_313 : Io B52 313 (.dup) 1 314 := by decide +kernel
theorem i52_314 : Io B52 314 (.bipush 7) 2 316 := by decide +kernel
theorem i52_316 : Io B52 316 (.bipush 116) 2 318 := by decide +kernel
theorem i52_318 : Io B52 318 (.castore) 1 319 := by decide +kernel
theorem i52_319 : Io B52 319 (.dup) 1 320 := by decide +kernel
theorem i52_320 : Io B52 320 (.bipush 8) 2 322 := by decide +kernel
theorem i52_322 : Io B52 322 (.bipush 32) 2 324 := by decide +kernel
theorem i52_324 : Io B52 324 (.castore) 1 325 := by decide +kernel
theorem i52_325 : Io B52 325 (.dup) 1 326 := by decide +kernel
theorem i52_326 : Io B52 326 (.bipush 9) 2 328 := by decide +kernel
theorem i52_328 : Io B52 328 (.bipush 98) 2 330 := by decide +kernel
theorem i52_330 : Io B52 330 (.castore) 1 331 := by decide +kernel
theorem i52_331 : Io B52 331 (.dup) 1 332 := by decide +kernel
theorem i52_332 : Io B52 332 (.bipush 10) 2 334 := by decide +kernel
theorem i52_334 : Io B52 334 (.bipush 101) 2 336 := by decide +kernel
theorem i52_336 : Io B52 336 (.castore) 1 337 := by decide +kernel
theorem i52_337 : Io B52 337 (.dup) 1 338 := by decide +kernel
theorem i52_338 : Io B52 338 (.bipush 11) 2 340 := by decide +kernel
theorem i52_340 : Io B52 340 (.bipush 32) 2 342 := by decide +kernel
theorem i52_342 : Io B52 342 (.castore) 1 343 := by decide +kernel
theorem i52_343 : Io B52 343 (.dup) 1 344 := by decide +kernel
theorem i52_344 : Io B52 344 (.bipush 12) 2 346 := by decide +kernel
theorem i52_346 : Io B52 346 (.bipush 97) 2 348 := by decide +kernel
theorem i52_348 : Io B52 348 (.castore) 1 349 := by decide +kernel
theorem i52_349 : Io B52 349 (.dup) 1 350 := by decide +kernel
theorem i52_350 : Io B52 350 (.bipush 13) 2 352 := by decide +kernel
theorem i52_352 : Io B52 352 (.bipush 98) 2 354 := by decide +kernel
theorem i52_354 : Io B52 354 (.castore) 1 355 := by decide +kernel
theorem i52_355 : Io B52 355 (.dup) 1 356 := by decide +kernel
theorem i52_356 : Io B52 356 (.bipush 14) 2 358 := by decide +kernel
theorem i52_358 : Io B52 358 (.bipush 111) 2 360 := by decide +kernel
theorem i52_360 : Io B52 360 (.castore) 1 361 := by decide +kernel
theorem i52_361 : Io B52 361 (.dup) 1 362 := by decide +kernel
theorem i52_362 : Io B52 362 (.bipush 15) 2 364 := by decide +kernel
theorem i52_364 : Io B52 364 (.bipush 118) 2 366 := by decide +kernel
theorem i52_366 : Io B52 366 (.castore) 1 367 := by decide +kernel
theorem i52_367 : Io B52 367 (.dup) 1 368 := by decide +kernel
theorem i52_368 : Io B52 368 (.bipush 16) 2 370 := by decide +kernel
theorem i52_370 : Io B52 370 (.bipush 101) 2 372 := by decide +kernel
theorem i52_372 : Io B52 372 (.castore) 1 373 := by decide +kernel
theorem i52_373 : Io B52 373 (.dup) 1 374 := by decide +kernel
theorem i52_374 : Io B52 374 (.bipush 17) 2 376 := by decide +kernel
theorem i52_376 : Io B52 376 (.bipush 32) 2 378 := by decide +kernel
theorem i52_378 : Io B52 378 (.castore) 1 379 := by decide +kernel
theorem i52_379 : Io B52 379 (.dup) 1 380 := by decide +kernel
theorem i52_380 : Io B52 380 (.bipush 18) 2 382 := by decide +kernel
theorem i52_382 : Io B52 382 (.bipush 122) 2 384 := by decide +kernel
theorem i52_384 : Io B52 384 (.castore) 1 385 := by decide +kernel
theorem i52_385 : Io B52 385 (.dup) 1 386 := by decide +kernel
theorem i52_386 : Io B52 386 (.bipush 19) 2 388 := by decide +kernel
theorem i52_388 : Io B52 388 (.bipush 101) 2 390 := by decide +kernel
theorem i52_390 : Io B52 390 (.castore) 1 391 := by decide +kernel
theorem i52_391 : Io B52 391 (.dup) 1 392 := by decide +kernel
theorem i52_392 : Io B52 392 (.bipush 20) 2 394 := by decide +kernel
theorem i52_394 : Io B52 394 (.bipush 114) 2 396 := by decide +kernel
theorem i52_396 : Io B52 396 (.castore) 1 397 := by decide +kernel
theorem i52_397 : Io B52 397 (.dup) 1 398 := by decide +kernel
theorem i52_398 : Io B52 398 (.bipush 21) 2 400 := by decide +kernel
theorem i52_400 : Io B52 400 (.bipush 111) 2 402 := by decide +kernel
theorem i52_402 : Io B52 402 (.castore) 1 403 := by decide +kernel
theorem i52_403 : Io B52 403 (.invokespecial 9) 3 406 := by decide +kernel
theorem i52_406 : Io B52 406 (.areturn) 1 407 := by decide +kernel
theorem i53_0 : Io B53 0 (.aload_n 0) 1 1 := by decide +kernel
theorem i53_1 : Io B53 1 (.getfield 31) 3 4 := by decide +kernel
theorem i53_4 : Io B53 4 (.areturn) 1 5 := by decide +kernel
theorem i54_0 : Io code 0 (.iload_n 0) 1 1 := ⟨at_0, rfl⟩
theorem i54_1 : Io code 1 (.iconst 3) 1 2 := ⟨at_1, rfl⟩
theorem i54_2 : Io code 2 (.iand) 1 3 := ⟨at_2, rfl⟩
theorem i54_3 : Io code 3 (.istore 4) 2 5 := ⟨at_3, rfl⟩
theorem i54_5 : Io code 5 (.iload_n 1) 1 6 := ⟨at_5, rfl⟩
theorem i54_6 : Io code 6 (.i2c) 1 7 := ⟨at_6, rfl⟩
theorem i54_7 : Io code 7 (.istore 5) 2 9 := ⟨at_7, rfl⟩
theorem i54_9 : Io code 9 (.iload_n 2) 1 10 := ⟨at_9, rfl⟩
theorem i54_10 : Io code 10 (.i2c) 1 11 := ⟨at_10, rfl⟩
theorem i54_11 : Io code 11 (.istore 6) 2 13 := ⟨at_11, rfl⟩
theorem i54_13 : Io code 13 (.iload_n 3) 1 14 := ⟨at_13, rfl⟩
theorem i54_14 : Io code 14 (.i2c) 1 15 := ⟨at_14, rfl⟩
theorem i54_15 : Io code 15 (.istore 7) 2 17 := ⟨at_15, rfl⟩
theorem i54_17 : Io code 17 (.iload 4) 2 19 := ⟨at_17, rfl⟩
theorem i54_19 : Io code 19 (.ifCond .ne 18) 3 22 := ⟨at_19, rfl⟩
theorem i54_22 : Io code 22 (.new 7) 3 25 := ⟨at_22, rfl⟩
theorem i54_25 : Io code 25 (.dup) 1 26 := ⟨at_25, rfl⟩
theorem i54_26 : Io code 26 (.iconst 0) 1 27 := ⟨at_26, rfl⟩
theorem i54_27 : Io code 27 (.newarray .char) 2 29 := ⟨at_27, rfl⟩
theorem i54_29 : Io code 29 (.invokespecial 9) 3 32 := ⟨at_29, rfl⟩
theorem i54_32 : Io code 32 (.astore 8) 2 34 := ⟨at_32, rfl⟩
theorem i54_34 : Io code 34 (.goto 77) 3 37 := ⟨at_34, rfl⟩
theorem i54_37 : Io code 37 (.iload 4) 2 39 := ⟨at_37, rfl⟩
theorem i54_39 : Io code 39 (.iconst 1) 1 40 := ⟨at_39, rfl⟩
theorem i54_40 : Io code 40 (.if_icmp .ne 13) 3 43 := ⟨at_40, rfl⟩
theorem i54_43 : Io code 43 (.iload 5) 2 45 := ⟨at_43, rfl⟩
theorem i54_45 : Io code 45 (.invokestatic 12) 3 48 := ⟨at_45, rfl⟩
theorem i54_48 : Io code 48 (.astore 8) 2 50 := ⟨at_48, rfl⟩
theorem i54_50 : Io code 50 (.goto 61) 3 53 := ⟨at_50, rfl⟩
theorem i54_53 : Io code 53 (.iload 4) 2 55 := ⟨at_53, rfl⟩
theorem i54_55 : Io code 55 (.iconst 2) 1 56 := ⟨at_55, rfl⟩
theorem i54_56 : Io code 56 (.if_icmp .ne 28) 3 59 := ⟨at_56, rfl⟩
theorem i54_59 : Io code 59 (.new 7) 3 62 := ⟨at_59, rfl⟩
theorem i54_62 : Io code 62 (.dup) 1 63 := ⟨at_62, rfl⟩
theorem i54_63 : Io code 63 (.iconst 2) 1 64 := ⟨at_63, rfl⟩
theorem i54_64 : Io code 64 (.newarray .char) 2 66 := ⟨at_64, rfl⟩
theorem i54_66 : Io code 66 (.dup) 1 67 := ⟨at_66, rfl⟩
theorem i54_67 : Io code 67 (.iconst 0) 1 68 := ⟨at_67, rfl⟩
theorem i54_68 : Io code 68 (.iload 5) 2 70 := ⟨at_68, rfl⟩
theorem i54_70 : Io code 70 (.castore) 1 71 := ⟨at_70, rfl⟩
theorem i54_71 : Io code 71 (.dup) 1 72 := ⟨at_71, rfl⟩
theorem i54_72 : Io code 72 (.iconst 1) 1 73 := ⟨at_72, rfl⟩
theorem i54_73 : Io code 73 (.iload 6) 2 75 := ⟨at_73, rfl⟩
theorem i54_75 : Io code 75 (.castore) 1 76 := ⟨at_75, rfl⟩
theorem i54_76 : Io code 76 (.invokespecial 9) 3 79 := ⟨at_76, rfl⟩
theorem i54_79 : Io code 79 (.astore 8) 2 81 := ⟨at_79, rfl⟩
theorem i54_81 : Io code 81 (.goto 30) 3 84 := ⟨at_81, rfl⟩
theorem i54_84 : Io code 84 (.new 7) 3 87 := ⟨at_84, rfl⟩
theorem i54_87 : Io code 87 (.dup) 1 88 := ⟨at_87, rfl⟩
theorem i54_88 : Io code 88 (.iconst 3) 1 89 := ⟨at_88, rfl⟩
theorem i54_89 : Io code 89 (.newarray .char) 2 91 := ⟨at_89, rfl⟩
theorem i54_91 : Io code 91 (.dup) 1 92 := ⟨at_91, rfl⟩
theorem i54_92 : Io code 92 (.iconst 0) 1 93 := ⟨at_92, rfl⟩
theorem i54_93 : Io code 93 (.iload 5) 2 95 := ⟨at_93, rfl⟩
theorem i54_95 : Io code 95 (.castore) 1 96 := ⟨at_95, rfl⟩
theorem i54_96 : Io code 96 (.dup) 1 97 := ⟨at_96, rfl⟩
theorem i54_97 : Io code 97 (.iconst 1) 1 98 := ⟨at_97, rfl⟩
theorem i54_98 : Io code 98 (.iload 6) 2 100 := ⟨at_98, rfl⟩
theorem i54_100 : Io code 100 (.castore) 1 101 := ⟨at_100, rfl⟩
theorem i54_101 : Io code 101 (.dup) 1 102 := ⟨at_101, rfl⟩
theorem i54_102 : Io code 102 (.iconst 2) 1 103 := ⟨at_102, rfl⟩
theorem i54_103 : Io code 103 (.iload 7) 2 105 := ⟨at_103, rfl⟩
theorem i54_105 : Io code 105 (.castore) 1 106 := ⟨at_105, rfl⟩
theorem i54_106 : Io code 106 (.invokespecial 9) 3 109 := ⟨at_106, rfl⟩
theorem i54_109 : Io code 109 (.astore 8) 2 111 := ⟨at_109, rfl⟩
theorem i54_111 : Io code 111 (.aload 8) 2 113 := ⟨at_111, rfl⟩
theorem i54_113 : Io code 113 (.invokestatic 16) 3 116 := ⟨at_113, rfl⟩
theorem i54_116 : Io code 116 (.astore 9) 2 118 := ⟨at_116, rfl⟩
theorem i54_118 : Io code 118 (.aload 9) 2 120 := ⟨at_118, rfl⟩
theorem i54_120 : Io code 120 (.ifnonnull 5) 3 123 := ⟨at_120, rfl⟩
theorem i54_125 : Io code 125 (.aload 9) 2 127 := ⟨at_125, rfl⟩
theorem i54_127 : Io code 127 (.invokevirtual 22) 3 130 := ⟨at_127, rfl⟩
theorem i54_130 : Io code 130 (.astore 10) 2 132 := ⟨at_130, rfl⟩
theorem i54_132 : Io code 132 (.aload 10) 2 134 := ⟨at_132, rfl⟩
theorem i54_134 : Io code 134 (.ifnonnull 5) 3 137 := ⟨at_134, rfl⟩
theorem i54_139 : Io code 139 (.aload 10) 2 141 := ⟨at_139, rfl⟩
theorem i54_141 : Io code 141 (.iload 4) 2 143 := ⟨at_141, rfl⟩
theorem i54_143 : Io code 143 (.iload 5) 2 145 := ⟨at_143, rfl⟩
theorem i54_145 : Io code 145 (.iload 6) 2 147 := ⟨at_145, rfl⟩
theorem i54_147 : Io code 147 (.iload 7) 2 149 := ⟨at_147, rfl⟩
theorem i54_149 : Io code 149 (.invokestatic 28) 3 152 := ⟨at_149, rfl⟩
theorem i54_152 : Io code 152 (.invokevirtual 34) 3 155 := ⟨at_152, rfl⟩
theorem i54_155 : Io code 155 (.ifCond .eq 15) 3 158 := ⟨at_155, rfl⟩
theorem i54_158 : Io code 158 (.aload 9) 2 160 := ⟨at_158, rfl⟩
theorem i54_160 : Io code 160 (.invokevirtual 38) 3 163 := ⟨at_160, rfl⟩
theorem i54_163 : Io code 163 (.ifnonnull 7) 3 166 := ⟨at_163, rfl⟩
theorem i54_166 : Io code 166 (.iconst 1) 1 167 := ⟨at_166, rfl⟩
theorem i54_167 : Io code 167 (.goto 4) 3 170 := ⟨at_167, rfl⟩
theorem i54_171 : Io code 171 (.ireturn) 1 172 := ⟨at_171, rfl⟩
theorem j1_6 : Jmp 1 (6) 7 := ⟨by decide, by decide⟩
theorem j1_8 : Jmp 1 (8) 9 := ⟨by decide, by decide⟩
theorem j1_11 : Jmp 1 (11) 12 := ⟨by decide, by decide⟩
theorem j2_7 : Jmp 2 (7) 9 := ⟨by decide, by decide⟩
theorem j2_35 : Jmp 2 (35) 37 := ⟨by decide, by decide⟩
theorem j3_11 : Jmp 3 (11) 14 := ⟨by decide, by decide⟩
theorem j3_25 : Jmp 3 (25) 28 := ⟨by decide, by decide⟩
theorem j4_4 : Jmp 4 (4) 8 := ⟨by decide, by decide⟩
theorem j4_7 : Jmp 4 (7) 11 := ⟨by decide, by decide⟩
theorem j5_22 : Jmp 5 (22) 27 := ⟨by decide, by decide⟩
theorem j5_23 : Jmp 5 (23) 28 := ⟨by decide, by decide⟩
theorem j6_4 : Jmp 6 (4) 10 := ⟨by decide, by decide⟩
theorem j8_4 : Jmp 8 (4) 12 := ⟨by decide, by decide⟩
theorem j9_128 : Jmp 9 (128) 137 := ⟨by decide, by decide⟩
theorem j10_4 : Jmp 10 (4) 14 := ⟨by decide, by decide⟩
theorem j10_7 : Jmp 10 (7) 17 := ⟨by decide, by decide⟩
theorem j10_16 : Jmp 10 (16) 26 := ⟨by decide, by decide⟩
theorem j11_21 : Jmp 11 (21) 32 := ⟨by decide, by decide⟩
theorem j12_11 : Jmp 12 (11) 23 := ⟨by decide, by decide⟩
theorem j14_4 : Jmp 14 (4) 18 := ⟨by decide, by decide⟩
theorem j14_7 : Jmp 14 (7) 21 := ⟨by decide, by decide⟩
theorem j14_24 : Jmp 14 (24) 38 := ⟨by decide, by decide⟩
theorem j14_27 : Jmp 14 (27) 41 := ⟨by decide, by decide⟩
theorem j15_40 : Jmp 15 (40) 55 := ⟨by decide, by decide⟩
theorem j19_18 : Jmp 19 (18) 37 := ⟨by decide, by decide⟩
theorem j19_22 : Jmp 19 (22) 41 := ⟨by decide, by decide⟩
theorem j20_6 : Jmp 20 (6) 26 := ⟨by decide, by decide⟩
theorem j22_16 : Jmp 22 (16) 38 := ⟨by decide, by decide⟩
theorem j25_18 : Jmp 25 (18) 43 := ⟨by decide, by decide⟩
theorem j29_m21 : Jmp 29 (-21) 8 := ⟨by decide, by decide⟩
theorem j34_77 : Jmp 34 (77) 111 := ⟨by decide, by decide⟩
theorem j38_m28 : Jmp 38 (-28) 10 := ⟨by decide, by decide⟩
theorem j38_13 : Jmp 38 (13) 51 := ⟨by decide, by decide⟩
theorem j38_16 : Jmp 38 (16) 54 := ⟨by decide, by decide⟩
theorem j38_59 : Jmp 38 (59) 97 := ⟨by decide, by decide⟩
theorem j40_13 : Jmp 40 (13) 53 := ⟨by decide, by decide⟩
theorem j41_m38 : Jmp 41 (-38) 3 := ⟨by decide, by decide⟩
theorem j50_61 : Jmp 50 (61) 111 := ⟨by decide, by decide⟩
theorem j51_28 : Jmp 51 (28) 79 := ⟨by decide, by decide⟩
theorem j56_28 : Jmp 56 (28) 84 := ⟨by decide, by decide⟩
theorem j81_30 : Jmp 81 (30) 111 := ⟨by decide, by decide⟩
theorem j120_5 : Jmp 120 (5) 125 := ⟨by decide, by decide⟩
theorem j134_5 : Jmp 134 (5) 139 := ⟨by decide, by decide⟩
theorem j139_133 : Jmp 139 (133) 272 := ⟨by decide, by decide⟩
theorem j167_4 : Jmp 167 (4) 171 := ⟨by decide, by decide⟩
theorem own_wS {Z : State} {a0 : Array Value} (hw : ∀ d ∈ tables_1, d.before a0 Z = true) : ∀ a ∈ Bundle.stringAtoms, a.before a0 Z = true := by
  intro a ha
  simp only [Bundle.stringAtoms, List.mem_cons, List.not_mem_nil, or_false] at ha
  rcases ha with rfl | rfl | rfl | rfl | rfl | rfl | rfl
  · exact hw _ wd_2
  · exact hw _ wd_1
  · exact hw _ wd_15
  · exact hw _ wd_16
  · exact hw _ wd_17
  · exact hw _ wd_18
  · exact hw _ wd_19
end Jvm.Pilot.@@N@@
namespace Jvm.Pilot.@@N@@
open Jvm Jvm.ClassFile Sem Op Lib Jvm.Free Jvm.Stand Jvm.LawKit Jvm.RoadKit Bundle Jvm.Own Jvm.Pilot.@@N@@.Jvm.D
section OwnStr
variable {C : Cx} {R : Room} {own : String} {b : ByteArray} {ml : Nat} {rt : Option FieldType} {nm : String} {q : Bool} {Z : State} {a0 : Array Value} {EL : List (String × Nat)} {n0 : Nat} {vm : Vm} {T : State} {h : Heap} {k n : Nat} {Q : Option Value → Heap → (Addr → Prop) → Prop} {pc pc' pt : Nat} {Ls Ls' : Array Slot} {st : List Value}
theorem own_strInit (X : On C R own b ml rt nm q Z a0 EL n0 vm T h k n) (hw : ∀ d ∈ tables_1, d.before a0 Z = true) {ix W k' n' : Nat} {x c0 : Addr} {kC : ClassId} {cs : List Int32} {d v0 w0 : Value} {z N : Int32} (hi : Jvm.Own.Ins b pc (.invokespecial ix) 3 pc')
    (w1 : (Cond.methodLink own ix ⟨"java/lang/String", "<init>", "([C)V"⟩).before a0 Z = true) (gx : n0 ≤ x) (E : Exa Z h x "java/lang/String") (V : Fld Z h x "java/lang/String" "value" "[B" v0) (W0 : Fld Z h x "java/lang/String" "coder" "B" w0) (K : Arv Z h c0 kC .char N (cs.map Value.int) d) (hN : N = Int32.ofNat cs.length) (l0 : 0 < cs.length) (l2 : cs.length ≤ 4000)
    (hp : ∀ c ∈ cs, ¬ c < 0 ∧ ¬ (255 : Int32) < c) (S : Sta Z Z.heap "java/lang/String" "COMPACT_STRINGS" "Z" (.int z)) (hz : ¬ z = 0) (Sf : Safe Z EL vm h x) (hsz : Ls.size = ml) (hW : 0 + (st.map fun v => v.category).sum = W) (hfr : 4 ≤ R.frames) (hlo : W + 65 ≤ R.locals)
    (hk' : k + 1 = k') (hn' : n + cs.length = n') (hc : k' ≤ R.cells) (hsl : n' ≤ R.slots)
    (g : ∀ T' h' t kb, On C R own b ml rt nm q Z a0 EL n0 vm T' h' k' n' → Keep h h' [x] → h.size ≤ t → Str Z h' x t kb cs → Go C R q Z EL n0 Q T' pc' Ls st) : Go C R q Z EL n0 Q T pc Ls (.ref c0 :: .ref x :: st) := by
  have hws : ∀ d ∈ StrChars.Road.words, d.before a0 Z = true := fun d hd => hw d ((by decide +kernel : ∀ d ∈ StrChars.Road.words, d ∈ tables_1) d hd)
  refine X.backI (W := W) (a := x) (argsL := [.ref c0]) hi (StrChars.Road.backV (W := W) X.zw hws (kI := 4) (hw _ wd_1) (cs := cs) (bs := cs.map fun c => c.toInt8.toInt32) (n := cs.length) gx X.n0le E V W0 K (S.ext X.ext0) hz rfl hN l0 l2 hp rfl hfr hlo) (fun v h' L hq => ⟨hq.2.1, CHr.keep hq.2.2.1 (sfS Sf sf0) X.chv, X.old.keep hq.2.2.1 (allS gx all0)⟩) w1 (hw _ wd_5) (hw _ wd_6) rfl (by decide) pd34 rfl rfl hsz hW hk' hn' hc hsl ?_
  rintro T' h' v L X' ⟨rfl, -, K', E', D', t, kb, -, ht, -, V', A'⟩
  refine g T' h' t kb X' K' ht ⟨E', V', D', ?_, hp⟩
  rw [hN, List.map_map] at A'; exact A'
theorem own_strEq (X : On C R own b ml rt nm q Z a0 EL n0 vm T h k n) (hw : ∀ d ∈ tables_1, d.before a0 Z = true) {ix W : Nat} {x y t t' : Addr} {kb kb' : ClassId} {cs ds : List Int32} {z : Int32} (hi : Jvm.Own.Ins b pc (.invokevirtual ix) 3 pc')
    (w1 : (Cond.methodLink own ix ⟨"java/lang/String", "equals", "(Ljava/lang/Object;)Z"⟩).before a0 Z = true) (F : Str Z h x t kb cs) (F' : Str Z h y t' kb' ds) (l2 : cs.length ≤ 4000) (l2' : ds.length ≤ 4000)
    (S : Sta Z Z.heap "java/lang/String" "COMPACT_STRINGS" "Z" (.int z)) (hz : ¬ z = 0) (hsz : Ls.size = ml) (hW : 0 + (st.map fun v => v.category).sum = W) (hfr : 2 ≤ R.frames) (hlo : W + 28 ≤ R.locals) (hc : k ≤ R.cells) (hsl : n ≤ R.slots)
    (g : ∀ T' r, On C R own b ml rt nm q Z a0 EL n0 vm T' h k n → ((r = 1 ∧ cs = ds) ∨ (r = 0 ∧ ¬ cs = ds)) → Go C R q Z EL n0 Q T' pc' Ls (.int r :: st)) : Go C R q Z EL n0 Q T pc Ls (.ref y :: .ref x :: st) := by
  have hws : ∀ d ∈ StrChars.Road.wordsEq, d.before a0 Z = true := fun d hd => hw d ((by decide +kernel : ∀ d ∈ StrChars.Road.wordsEq, d ∈ tables_1) d hd)
  refine X.backVt (W := W) (a := x) (argsL := [.ref y]) (QQ := fun v h' L => ((v = some (.int 1) ∧ cs = ds) ∨ (v = some (.int 0) ∧ ¬ cs = ds)) ∧ L = [] ∧ h' = h) hi (StrChars.Road.eqW (W := W) X.zw hws (kI := 4) (hw _ wd_1) F.1 F.2.1 F.2.2.1 F.2.2.2.1 (Or.inl ⟨rfl, rfl, rfl, fun c hc => (F.2.2.2.2 c hc).2⟩) (fun c hc => up16 (F.2.2.2.2 c hc)) l2 F'.1 F'.2.1 F'.2.2.1 F'.2.2.2.1 (Or.inl ⟨rfl, rfl, rfl, fun c hc => (F'.2.2.2.2 c hc).2⟩) (fun c hc => up16 (F'.2.2.2.2 c hc)) l2' (S.ext X.ext0) hz hfr hlo) (fun v h' L hq => ⟨by rw [hq.2.1]; exact Fr.nil _, by rw [hq.2.2]; exact CHr.refl X.chv, by rw [hq.2.2]; exact X.old⟩) F.1 w1 (hw _ wd_228) (hw _ wd_230) (nfSel X.zw (hw _ wd_230)) (hw _ wd_229) (by decide) pd38 rfl rfl hsz hW rfl rfl hc hsl ?_
  rintro T' h' v L X' ⟨hv, -, rfl⟩
  rcases hv with ⟨rfl, e⟩ | ⟨rfl, e⟩
  · exact g T' 1 X' (Or.inl ⟨rfl, e⟩)
  · exact g T' 0 X' (Or.inr ⟨rfl, e⟩)
theorem own_strLen (X : On C R own b ml rt nm q Z a0 EL n0 vm T h k n) (hw : ∀ d ∈ tables_1, d.before a0 Z = true) {ix W : Nat} {x t : Addr} {kb : ClassId} {cs : List Int32} {z zz : Int32} (hi : Jvm.Own.Ins b pc (.invokevirtual ix) 3 pc')
    (w1 : (Cond.methodLink own ix ⟨"java/lang/String", "length", "()I"⟩).before a0 Z = true) (F : Str Z h x t kb cs) (l2 : cs.length ≤ 4000)
    (S : Sta Z Z.heap "java/lang/String" "COMPACT_STRINGS" "Z" (.int zz)) (hz : ¬ zz = 0) (hsz : Ls.size = ml) (hW : 0 + (st.map fun v => v.category).sum = W) (hfr : 2 ≤ R.frames) (hlo : W + 25 ≤ R.locals) (hc : k ≤ R.cells) (hsl : n ≤ R.slots) (hzz : Int32.ofNat cs.length = z)
    (g : ∀ T', On C R own b ml rt nm q Z a0 EL n0 vm T' h k n → Go C R q Z EL n0 Q T' pc' Ls (.int z :: st)) : Go C R q Z EL n0 Q T pc Ls (.ref x :: st) := by
  subst hzz
  have hws : ∀ d ∈ StrChars.Road.wordsLen, d.before a0 Z = true := fun d hd => hw d ((by decide +kernel : ∀ d ∈ StrChars.Road.wordsLen, d ∈ tables_1) d hd)
  refine X.backVt (W := W) (a := x) (argsL := []) (QQ := fun v h' L => v = some (.int (Int32.ofNat cs.length)) ∧ L = [] ∧ h' = h) hi (StrChars.Road.lenW (W := W) X.zw hws (kI := 4) (hw _ wd_1) F.1 F.2.1 F.2.2.1 F.2.2.2.1 (Or.inl ⟨rfl, rfl, rfl, fun c hc => (F.2.2.2.2 c hc).2⟩) (fun c hc => up16 (F.2.2.2.2 c hc)) (S.ext X.ext0) hz l2 hfr hlo) (fun v h' L hq => ⟨by rw [hq.2.1]; exact Fr.nil _, by rw [hq.2.2]; exact CHr.refl X.chv, by rw [hq.2.2]; exact X.old⟩) F.1 w1 (hw _ wd_58) (hw _ wd_60) (nfSel X.zw (hw _ wd_60)) (hw _ wd_59) (by decide) pd26 rfl rfl hsz hW rfl rfl hc hsl ?_
  rintro T' h' v L X' ⟨rfl, -, rfl⟩
  exact g T' X'
end OwnStr
end Jvm.Pilot.@@N@@
namespace Jvm.Pilot.@@N@@
open Jvm Jvm.ClassFile Sem Op Lib Jvm.Free Jvm.Stand Jvm.LawKit Jvm.RoadKit Bundle Jvm.Own Jvm.Pilot.@@N@@.Jvm.D
abbrev own_lat (c : Int32) : Prop := ¬ c < 0 ∧ ¬ (255 : Int32) < c
theorem own_and3 (x : Int32) : x &&& 3 = 0 ∨ x &&& 3 = 1 ∨ x &&& 3 = 2 ∨ x &&& 3 = 3 := by
  have q := c_mask x 3 2 (by decide) (by decide)
  have e0 : (0 : Int32).toInt = 0 := by decide
  have e1 : (1 : Int32).toInt = 1 := by decide
  have e2 : (2 : Int32).toInt = 2 := by decide
  have e3 : (3 : Int32).toInt = 3 := by decide
  have r : (x &&& 3).toInt = 0 ∨ (x &&& 3).toInt = 1 ∨ (x &&& 3).toInt = 2 ∨ (x &&& 3).toInt = 3 := by omega
  rcases r with r | r | r | r
  · exact Or.inl (Int32.toInt_inj.mp (r.trans e0.symm))
  · exact Or.inr (Or.inl (Int32.toInt_inj.mp (r.trans e1.symm)))
  · exact Or.inr (Or.inr (Or.inl (Int32.toInt_inj.mp (r.trans e2.symm))))
  · exact Or.inr (Or.inr (Or.inr (Int32.toInt_inj.mp (r.trans e3.symm))))
abbrev own_f (c : Int32) : Value := Value.int c.toInt8.toInt32
theorem own_nn {n : Nat} (h : n ≤ 4000) : ¬ (Int32.ofNat n) < 0 := by
  intro z
  have z1 := Int32.lt_iff_toInt_lt.mp z
  have e1 : (Int32.ofNat n).toInt = n := Int32.toInt_ofNat_small (by omega)
  have e2 : (0 : Int32).toInt = 0 := by decide
  omega
theorem own_tn {n : Nat} (h : n ≤ 4000) : (Int32.ofNat n).toNatClampNeg = n := by
  have e1 : (Int32.ofNat n).toInt = n := Int32.toInt_ofNat_small (by omega)
  show (Int32.ofNat n).toInt.toNat = _
  rw [e1]; rfl
theorem own_addl (bs cs : List Int32) : Int32.ofNat bs.length + Int32.ofNat cs.length = Int32.ofNat (bs ++ cs).length := by
  rw [List.length_append, Int32.ofNat_add]
theorem own_room16 {n : Nat} (h : n ≤ 16) : ¬ (0 : Int32) < Int32.ofNat n - (16 : Int32) := by
  intro z
  have z1 := Int32.lt_iff_toInt_lt.mp z
  have e1 : (Int32.ofNat n).toInt = n := Int32.toInt_ofNat_small (by omega)
  have e2 : (0 : Int32).toInt = 0 := by decide
  have e3 : (16 : Int32).toInt = 16 := by decide
  have q := c_isub (Int32.ofNat n) 16
  have r := rng32 (Int32.ofNat n - 16)
  omega
theorem own_shl0 (x : Int32) : x <<< ((0 : Int32) &&& 31) = x := by
  have e : ((0 : Int32) &&& 31) = 0 := by decide
  rw [e]; simp
theorem own_sub0 (x : Int32) : x - (0 : Int32) = x := by simp
theorem own_us (cs : List Int32) (d : Value) (k : Nat) (hk : k = cs.length) : (List.range k).map (fun i => (cs.map own_f).getD ((0 : Int32).toNatClampNeg + i) d) = cs.map own_f := by
  subst hk
  apply List.ext_getElem
  · simp
  · intro i h1 h2
    have e : (0 : Int32).toNatClampNeg + i = i := by
      have : (0 : Int32).toNatClampNeg = 0 := by decide
      omega
    simp only [List.getElem_map, List.getElem_range, e]
    simp at h2
    simp [h2]
theorem own_cat (bs cs : List Int32) (d : Value) {us : List Value} (hb : bs.length ≤ 4000) (hc : cs.length ≤ 4000) (hu : us = cs.map own_f) :
    (bs.map own_f ++ List.replicate cs.length d).take (Int32.ofNat bs.length).toNatClampNeg ++ us ++ (bs.map own_f ++ List.replicate cs.length d).drop ((Int32.ofNat bs.length).toNatClampNeg + (Int32.ofNat cs.length).toNatClampNeg) = (bs ++ cs).map own_f := by
  rw [own_tn hb, own_tn hc, hu]
  have e1 : (bs.map own_f ++ List.replicate cs.length d).take bs.length = bs.map own_f := by
    have : bs.length = (bs.map own_f).length := by simp
    rw [this, List.take_left]
  have e2 : (bs.map own_f ++ List.replicate cs.length d).drop (bs.length + cs.length) = [] := by
    apply List.drop_of_length_le; simp
  rw [e1, e2]; simp
theorem own_lapp {a b : List Int32} (h1 : ∀ c ∈ a, ¬ c < 0 ∧ ¬ (255 : Int32) < c) (h2 : ∀ c ∈ b, ¬ c < 0 ∧ ¬ (255 : Int32) < c) : ∀ c ∈ (a ++ b), ¬ c < 0 ∧ ¬ (255 : Int32) < c := by
  intro c hc
  rcases List.mem_append.mp hc with h | h
  · exact h1 c h
  · exact h2 c h
abbrev own_wb : List Int32 → List Value := StrChars.Road.wideBytes
theorem own_wba : ∀ (as bs : List Int32), own_wb (as ++ bs) = own_wb as ++ own_wb bs
  | [], bs => rfl
  | c :: as, bs => by
    show Value.int (StrChars.lo8 c) :: Value.int (StrChars.hi8 c) :: own_wb (as ++ bs) = Value.int (StrChars.lo8 c) :: Value.int (StrChars.hi8 c) :: (own_wb as ++ own_wb bs)
    rw [own_wba as bs]
theorem own_wbl : ∀ (cs : List Int32), (own_wb cs).length = 2 * cs.length
  | [] => rfl
  | c :: cs => by
    show (own_wb cs).length + 1 + 1 = 2 * (cs.length + 1)
    rw [own_wbl cs]; omega
theorem own_e8 {n : Nat} (h : n ≤ 8000) : (Int32.ofNat n).toInt = n := Int32.toInt_ofNat_small (by omega)
theorem own_tn8 {n : Nat} (h : n ≤ 8000) : (Int32.ofNat n).toNatClampNeg = n := by
  show (Int32.ofNat n).toInt.toNat = _
  rw [own_e8 h]; rfl
theorem own_nn8 {n : Nat} (h : n ≤ 8000) : ¬ (Int32.ofNat n) < 0 := by
  intro z
  have z1 := Int32.lt_iff_toInt_lt.mp z
  have e1 := own_e8 h
  have e2 : (0 : Int32).toInt = 0 := by decide
  omega
theorem own_lt8 {i n : Nat} (h : i < n) (gq2 : n ≤ 8000) : Int32.ofNat i < Int32.ofNat n := by
  rw [Int32.lt_iff_toInt_lt, own_e8 (n := i) (by omega), own_e8 (n := n) gq2]; omega
theorem own_nl8 {i n : Nat} (h : n ≤ i) (gq2 : i ≤ 8000) : ¬ Int32.ofNat i < Int32.ofNat n := by
  rw [Int32.lt_iff_toInt_lt, own_e8 (n := i) gq2, own_e8 (n := n) (by omega)]; omega
theorem own_ne8 {i n : Nat} (h : i < n) (gq2 : n ≤ 8000) : ¬ Int32.ofNat i = Int32.ofNat n := fun z => by
  have q := own_lt8 h gq2
  rw [z, Int32.lt_iff_toInt_lt] at q; omega
theorem own_shl1 {n : Nat} (h : n ≤ 4000) : (Int32.ofNat n) <<< ((1 : Int32) &&& 31) = Int32.ofNat (2 * n) := by
  have q := c_ishl (Int32.ofNat n) 1 1 (by decide)
  have r := rng32 ((Int32.ofNat n) <<< ((1 : Int32) &&& 31))
  have e1 := own_e8 (n := n) (by omega)
  have e2 := own_e8 (n := 2 * n) (by omega)
  apply Int32.toInt_inj.mp
  rw [e2]
  rw [e1] at q
  simp only [Nat.pow_one] at q
  omega
theorem own_inc (n : Nat) : Int32.ofNat n + (1 : Int32) = Int32.ofNat (n + 1) := by rw [Int32.ofNat_add]; rfl
theorem own_ltM {n : Nat} (h : n ≤ 4000) : Int32.ofNat n < (1073741823 : Int32) := by
  have e1 := own_e8 (n := n) (by omega)
  have e2 : (1073741823 : Int32).toInt = 1073741823 := by decide
  rw [Int32.lt_iff_toInt_lt, e1, e2]; omega
theorem own_snocV (vs : List Value) (d y : Value) {i : Nat} (hi : i = vs.length) : (vs ++ List.replicate 1 d).set i y = vs ++ [y] := by
  subst hi; rw [List.set_append_right _ _ (Nat.le_refl _)]; simp
theorem own_mid {cs pre suf : List Int32} {c : Int32} (h : cs = pre ++ c :: suf) (d : Value) (h4 : cs.length ≤ 4000) : (cs.map Value.int).getD (Int32.ofNat pre.length).toNatClampNeg d = .int c := by
  subst h
  rw [own_tn8 (by simp at h4; omega)]; simp
theorem own_midf {cs pre suf : List Int32} {c : Int32} (h : cs = pre ++ c :: suf) (d : Value) (h4 : cs.length ≤ 4000) : (cs.map own_f).getD (Int32.ofNat pre.length).toNatClampNeg d = .int (c.toInt8.toInt32) := by
  subst h
  rw [own_tn8 (by simp at h4; omega)]; simp
theorem own_midl {cs pre suf : List Int32} {c : Int32} (h : cs = pre ++ c :: suf) : pre.length < cs.length := by subst h; simp
theorem own_midm {cs pre suf : List Int32} {c : Int32} (h : cs = pre ++ c :: suf) : c ∈ cs := by subst h; simp
theorem own_step {cs pre suf : List Int32} {c : Int32} (h : cs = pre ++ c :: suf) : cs = (pre ++ [c]) ++ suf := by subst h; simp
theorem own_snl {es fs : List Int32} {y : Int32} (h : es ++ [y] = fs) : Int32.ofNat es.length + (1 : Int32) = Int32.ofNat fs.length := by
  subst h; rw [List.length_append, Int32.ofNat_add]; rfl
theorem own_cal {n : Nat} (gq0 : 0 < n) (h : n ≤ 22) : (((Int32.ofNat n) - (Int32.ofNat (2 * n))).toUInt32 >>> ((31 : Int32) &&& 31).toUInt32).toInt32 = (1 : Int32) := by
  have t : ∀ k : Fin 23, 0 < k.val → (((Int32.ofNat k.val) - (Int32.ofNat (2 * k.val))).toUInt32 >>> ((31 : Int32) &&& 31).toUInt32).toInt32 = (1 : Int32) := by decide +kernel
  exact t ⟨n, by omega⟩ gq0
theorem own_wlo (cs : List Int32) (d : Value) {i : Nat} (h : i < cs.length) (h4 : cs.length ≤ 4000) : (own_wb cs).getD (Int32.ofNat (2 * i)).toNatClampNeg d = .int (StrChars.lo8 (cs.getD i 0)) := by
  rw [own_tn8 (by omega)]; exact StrChars.Road.wide_lo d cs i h
theorem own_whi (cs : List Int32) (d : Value) {i : Nat} (h : i < cs.length) (h4 : cs.length ≤ 4000) : (own_wb cs).getD (Int32.ofNat (2 * i + 1)).toNatClampNeg d = .int (StrChars.hi8 (cs.getD i 0)) := by
  rw [own_tn8 (by omega)]; exact StrChars.Road.wide_hi d cs i h
theorem own_getm8 {cs : List Int32} {i : Nat} (d : Value) (h : i < cs.length) (h4 : cs.length ≤ 4000) : (cs.map Value.int).getD (Int32.ofNat i).toNatClampNeg d = .int (cs.getD i 0) := by
  rw [own_tn8 (by omega)]; simp [h]
theorem own_in8 {i n : Nat} (h : i < n) (gq2 : n ≤ 8000) : ¬ Int32.ofNat i < (0 : Int32) ∧ Int32.ofNat i < Int32.ofNat n := ⟨own_nn8 (by omega), own_lt8 h gq2⟩
abbrev own_first (cs : List Int32) (i : Nat) : Prop := (i = 0 ∧ (255 : Int32) < cs.getD 0 0 ∧ 0 < cs.length) ∨ (i = 1 ∧ ¬ (255 : Int32) < cs.getD 0 0 ∧ (255 : Int32) < cs.getD 1 0 ∧ 1 < cs.length) ∨ (i = 2 ∧ ¬ (255 : Int32) < cs.getD 0 0 ∧ ¬ (255 : Int32) < cs.getD 1 0 ∧ (255 : Int32) < cs.getD 2 0 ∧ 2 < cs.length)
theorem own_firstS {cs : List Int32} {i : Nat} (h : own_first cs i) : i < cs.length ∧ (255 : Int32) < cs.getD i 0 := by
  rcases h with ⟨rfl, h, l⟩ | ⟨rfl, -, h, l⟩ | ⟨rfl, -, -, h, l⟩ <;> exact ⟨l, h⟩
abbrev own_chr (c : Int32) : Prop := ¬ c < 0 ∧ ¬ (65535 : Int32) < c
theorem own_rngi {cs : List Int32} (h : ∀ c ∈ cs, own_chr c) {i : Nat} (hi : i < cs.length) : own_chr (cs.getD i 0) := by
  have e : cs.getD i 0 = cs[i] := by simp [List.getD_eq_getElem?_getD, hi]
  rw [e]; exact h _ (List.getElem_mem _)
theorem own_i2cw {c : Int32} (h : own_chr c) : c.toUInt32.toUInt16.toUInt32.toInt32 = c := by
  have q := c_i2c c
  have e0 : (0 : Int32).toInt = 0 := by decide
  have e1 : (65535 : Int32).toInt = 65535 := by decide
  have gq1 : ¬ c.toInt < 0 := fun z => h.1 (Int32.lt_iff_toInt_lt.mpr (by omega))
  have gq2 : ¬ 65535 < c.toInt := fun z => h.2 (Int32.lt_iff_toInt_lt.mpr (by omega))
  apply Int32.toInt_inj.mp
  omega
theorem own_chrOf (x : Int32) : own_chr (x.toUInt32.toUInt16.toUInt32.toInt32) := by
  have q := c_i2c x
  have e0 : (0 : Int32).toInt = 0 := by decide
  have e1 : (65535 : Int32).toInt = 65535 := by decide
  constructor
  · intro z; have := Int32.lt_iff_toInt_lt.mp z; omega
  · intro z; have := Int32.lt_iff_toInt_lt.mp z; omega
theorem own_chr0 : ∀ c ∈ ([] : List Int32), own_chr c := fun _ z => nomatch z
theorem own_chrS {c : Int32} {l : List Int32} (p : own_chr c) (r : ∀ x ∈ l, own_chr x) : ∀ x ∈ c :: l, own_chr x := fun x hx => (List.mem_cons.mp hx).elim (fun e => e ▸ p) (r x)
theorem own_bnd {i n m : Nat} (h : i + n ≤ m) (hm : m ≤ 4000) : ¬ ((Int32.ofNat m ||| Int32.ofNat i) ||| Int32.ofNat n) < 0 ∧ ¬ (Int32.ofNat m - Int32.ofNat i) < Int32.ofNat n := by
  have e0 : (0 : Int32).toInt = 0 := by decide
  have e1 := own_e8 (n := i) (by omega)
  have e2 := own_e8 (n := n) (by omega)
  have e3 := own_e8 (n := m) (by omega)
  constructor
  · intro z
    have z1 := Int32.lt_iff_toInt_lt.mp z
    have q1 := (c_orS (Int32.ofNat m) (Int32.ofNat i)).1 (by omega) (by omega)
    have q2 := (c_orS (Int32.ofNat m ||| Int32.ofNat i) (Int32.ofNat n)).1 q1 (by omega)
    omega
  · intro z
    have z1 := Int32.lt_iff_toInt_lt.mp z
    have q := c_isub (Int32.ofNat m) (Int32.ofNat i)
    have r := rng32 (Int32.ofNat m - Int32.ofNat i)
    omega
theorem own_cp0 (vs : List Value) (d : Value) (K : Nat) {n : Int32} (hn : n.toNatClampNeg = K) (hle : vs.length ≤ K) : ∀ i, vs.getD i d = (((([] : List Value) ++ List.replicate K d).take (0 : Int32).toNatClampNeg ++ (List.range n.toNatClampNeg).map (fun i => vs.getD ((0 : Int32).toNatClampNeg + i) d)) ++ (([] : List Value) ++ List.replicate K d).drop ((0 : Int32).toNatClampNeg + n.toNatClampNeg)).getD i d := by
  intro i
  have e : (0 : Int32).toNatClampNeg = 0 := by decide
  rw [hn, e]
  simp only [List.take_zero, List.nil_append, Nat.zero_add]
  rw [List.drop_of_length_le (by simp), List.append_nil]
  by_cases h : i < K
  · simp [List.getD_eq_getElem?_getD, h]
  · rw [List.getD_eq_getElem?_getD, List.getD_eq_getElem?_getD, List.getElem?_eq_none (by omega), List.getElem?_eq_none (by simp; omega)]
theorem own_minN {N n : Nat} {r : Int32} (hN : N ≤ 8000) (hn : n ≤ N) (h : (r = Int32.ofNat N ∧ ¬ (Int32.ofNat n) < Int32.ofNat N) ∨ (r = Int32.ofNat n ∧ (Int32.ofNat n) < Int32.ofNat N)) : r = Int32.ofNat n := by
  rcases h with ⟨rfl, h⟩ | ⟨rfl, -⟩
  · rcases Nat.lt_or_ge n N with q | q
    · exact absurd (own_lt8 q hN) h
    · rw [Nat.le_antisymm hn q]
  · rfl
theorem own_maxB {a b r : Int32} (hab : a < b) (h : (r = b ∧ a < b) ∨ (r = a ∧ ¬ a < b)) : r = b := by
  rcases h with ⟨rfl, -⟩ | ⟨-, h⟩
  · rfl
  · exact absurd hab h
theorem own_gro {n c : Nat} (gq1 : c < n) (gq2 : n ≤ 100) : (0 : Int32) < Int32.ofNat n - Int32.ofNat c ∧ (Int32.ofNat n - Int32.ofNat c).toInt = n - c := by
  have e1 := own_e8 (n := n) (by omega)
  have e2 := own_e8 (n := c) (by omega)
  have e0 : (0 : Int32).toInt = 0 := by decide
  have q := c_isub (Int32.ofNat n) (Int32.ofNat c)
  have r := rng32 (Int32.ofNat n - Int32.ofNat c)
  constructor
  · rw [Int32.lt_iff_toInt_lt, e0]; omega
  · omega
theorem own_groL {n : Nat} (gq1 : 16 < n) (gq2 : n ≤ 22) : Int32.ofNat n - (16 : Int32) < (18 : Int32) := by
  have q := (own_gro (n := n) (c := 16) gq1 (by omega)).2
  have e : (18 : Int32).toInt = 18 := by decide
  rw [Int32.lt_iff_toInt_lt, e]
  have : (Int32.ofNat n - (16 : Int32)).toInt = (n : Int) - (16 : Nat) := q
  omega
theorem own_groW {n : Nat} (gq1 : 16 < n) (gq2 : n ≤ 22) : Int32.ofNat (2 * n) - (32 : Int32) < (36 : Int32) := by
  have q := (own_gro (n := 2 * n) (c := 32) (by omega) (by omega)).2
  have e : (36 : Int32).toInt = 36 := by decide
  rw [Int32.lt_iff_toInt_lt, e]
  have : (Int32.ofNat (2 * n) - (32 : Int32)).toInt = ((2 * n : Nat) : Int) - (32 : Nat) := q
  omega
theorem own_grow {n : Nat} (gq1 : 16 < n) (gq2 : n ≤ 22) : (0 : Int32) < Int32.ofNat n - (16 : Int32) := (own_gro (n := n) (c := 16) gq1 (by omega)).1
theorem own_eqA {C : Cx} {R : Room} {own : String} {b : ByteArray} {ml : Nat} {rt : Option FieldType} {nm : String} {q : Bool} {Z : State} {a0 : Array Value} {EL : List (String × Nat)} {n0 : Nat} {vm : Vm} {T : State} {h : Heap} {k n : Nat} {Q : Option Value → Heap → (Addr → Prop) → Prop} {pc pc' : Nat} {Ls : Array Slot} {st : List Value}
    (X : On C R own b ml rt nm q Z a0 EL n0 vm T h k n) (hw : ∀ d ∈ tables_1, d.before a0 Z = true) {ix W kI : Nat} {x y t t' : Addr} {kb kb' : ClassId} {cs ds : List Int32} {z : Int32} (hi : Jvm.Own.Ins b pc (.invokevirtual ix) 3 pc')
    (w1 : (Cond.methodLink own ix ⟨"java/lang/String", "equals", "(Ljava/lang/Object;)Z"⟩).before a0 Z = true) (w2 : (Cond.declares ⟨"java/lang/String", "equals", "(Ljava/lang/Object;)Z"⟩).before a0 Z = true) (w5 : (Cond.selects "java/lang/String" ⟨"java/lang/String", "equals", "(Ljava/lang/Object;)Z"⟩ ⟨"java/lang/String", "equals", "(Ljava/lang/Object;)Z"⟩).before a0 Z = true) (w6 : (Cond.instanceMethod ⟨"java/lang/String", "equals", "(Ljava/lang/Object;)Z"⟩).before a0 Z = true) (wI : (Cond.instantiable "java/lang/String" kI).before a0 Z = true)
    {cd cd' N N' : Int32} {vs vs' : List Value} (E : Exa Z h x "java/lang/String") (V : Fld Z h x "java/lang/String" "value" "[B" (.ref t)) (D : Fld Z h x "java/lang/String" "coder" "B" (.int cd)) (K : Arv Z h t kb .byte N vs (.int (0 : Int32))) (hx : StrChars.Road.CodA cs cd N vs) (hc : ∀ c ∈ cs, own_chr c) (l2 : cs.length ≤ 4000)
    (E' : Exa Z h y "java/lang/String") (V' : Fld Z h y "java/lang/String" "value" "[B" (.ref t')) (D' : Fld Z h y "java/lang/String" "coder" "B" (.int cd')) (K' : Arv Z h t' kb' .byte N' vs' (.int (0 : Int32))) (hy : StrChars.Road.CodA ds cd' N' vs') (hd : ∀ c ∈ ds, own_chr c) (l2' : ds.length ≤ 4000)
    (S : Sta Z Z.heap "java/lang/String" "COMPACT_STRINGS" "Z" (.int z)) (hz : ¬ z = 0) (hsz : Ls.size = ml) (hW : 0 + (st.map fun v => v.category).sum = W) (hfr : 2 ≤ R.frames) (hlo : W + 28 ≤ R.locals) (hk : k ≤ R.cells) (hsl : n ≤ R.slots)
    (g : ∀ T' r, On C R own b ml rt nm q Z a0 EL n0 vm T' h k n → ((r = 1 ∧ cs = ds) ∨ (r = 0 ∧ ¬ cs = ds)) → Go C R q Z EL n0 Q T' pc' Ls (.int r :: st)) : Go C R q Z EL n0 Q T pc Ls (.ref y :: .ref x :: st) := by
  have hws : ∀ d ∈ StrChars.Road.wordsEq, d.before a0 Z = true := fun d hd => hw d ((by decide +kernel : ∀ d ∈ StrChars.Road.wordsEq, d ∈ tables_1) d hd)
  refine X.backVt (W := W) (a := x) (argsL := [.ref y]) (QQ := fun v h' L => ((v = some (.int 1) ∧ cs = ds) ∨ (v = some (.int 0) ∧ ¬ cs = ds)) ∧ L = [] ∧ h' = h) hi (StrChars.Road.eqW (W := W) X.zw hws wI E V D K hx hc l2 E' V' D' K' hy hd l2' (S.ext X.ext0) hz hfr hlo) (fun v h' L hq => ⟨by rw [hq.2.1]; exact Fr.nil _, by rw [hq.2.2]; exact CHr.refl X.chv, by rw [hq.2.2]; exact X.old⟩) E w1 w2 w5 (nfSel X.zw w5) w6 (by decide) (ps := [.object "java/lang/Object"]) (r := some .boolean) (by decide +kernel) rfl rfl hsz hW rfl rfl hk hsl ?_
  rintro T' h' v L X' ⟨hv, -, rfl⟩
  rcases hv with ⟨rfl, e⟩ | ⟨rfl, e⟩
  · exact g T' 1 X' (Or.inl ⟨rfl, e⟩)
  · exact g T' 0 X' (Or.inr ⟨rfl, e⟩)
theorem own_arrRef {s : State} {args : Array Value} {t : Term} {ty : FieldType} (h : (Cond.arrayOf t ty).before args s = true) : ∃ x, t.eval args s none [] s = some (.ref x) := by
  have gq1 := Cond.before_iff.mp h
  simp only [Cond.value] at gq1
  cases ht : t.eval args s none [] s with
  | none => simp [ht] at gq1
  | some v => cases v <;> simp [ht] at gq1 ⊢
theorem own_firstE {cs : List Int32} {i : Nat} (h : own_first cs i) : ∃ c ∈ cs, (255 : Int32) < c := by
  obtain ⟨l, w⟩ := own_firstS h
  have e : cs.getD i 0 = cs[i] := by simp [List.getD_eq_getElem?_getD, l]
  rw [e] at w
  exact ⟨_, List.getElem_mem l, w⟩
theorem own_first1 {a : Int32} {i : Nat} (h : own_first [a] i) : (255 : Int32) < a := by
  rcases h with ⟨rfl, h, l⟩ | ⟨rfl, -, h, l⟩ | ⟨rfl, -, -, h, l⟩
  · exact h
  · simp at l
  · simp at l
theorem own_latOr (c : Int32) (h : own_chr c) : own_lat c ∨ (255 : Int32) < c := by
  by_cases q : (255 : Int32) < c
  · exact Or.inr q
  · exact Or.inl ⟨h.1, q⟩
theorem own_split1 {a : Int32} (ha : own_chr a) : own_lat a ∨ ∃ i, ∀ t : List Int32, own_first (a :: t) i := by
  rcases own_latOr a ha with l | w
  · exact Or.inl l
  · exact Or.inr ⟨0, fun t => Or.inl ⟨rfl, w, Nat.zero_lt_succ _⟩⟩
theorem own_split2 {a b : Int32} (ha : own_chr a) (hb : own_chr b) : (own_lat a ∧ own_lat b) ∨ ∃ i, ∀ t : List Int32, own_first (a :: b :: t) i := by
  rcases own_latOr a ha with l | w
  · rcases own_latOr b hb with m | w
    · exact Or.inl ⟨l, m⟩
    · exact Or.inr ⟨1, fun t => Or.inr (Or.inl ⟨rfl, l.2, w, Nat.succ_lt_succ (Nat.zero_lt_succ _)⟩)⟩
  · exact Or.inr ⟨0, fun t => Or.inl ⟨rfl, w, Nat.zero_lt_succ _⟩⟩
theorem own_split3 {a b c : Int32} (ha : own_chr a) (hb : own_chr b) (hc : own_chr c) : (own_lat a ∧ own_lat b ∧ own_lat c) ∨ ∃ i, ∀ t : List Int32, own_first (a :: b :: c :: t) i := by
  rcases own_latOr a ha with l | w
  · rcases own_latOr b hb with m | w
    · rcases own_latOr c hc with n | w
      · exact Or.inl ⟨l, m, n⟩
      · exact Or.inr ⟨2, fun t => Or.inr (Or.inr ⟨rfl, l.2, m.2, w, Nat.succ_lt_succ (Nat.succ_lt_succ (Nat.zero_lt_succ _))⟩)⟩
    · exact Or.inr ⟨1, fun t => Or.inr (Or.inl ⟨rfl, l.2, w, Nat.succ_lt_succ (Nat.zero_lt_succ _)⟩)⟩
  · exact Or.inr ⟨0, fun t => Or.inl ⟨rfl, w, Nat.zero_lt_succ _⟩⟩
abbrev own_Ctx (l : Launch) (Z : State) (a0 : Array Value) (zc : Int32) (fm : Value) (us ss : Addr) : Prop := (∀ d ∈ tables_1, d.before a0 Z = true) ∧ (EW Z a0 own_EL) ∧ (Sta Z Z.heap "java/lang/String" "COMPACT_STRINGS" "Z" (.int zc)) ∧ (¬ zc = 0) ∧ (Sta Z Z.heap "jdk/internal/util/Preconditions" "SIOOBE_FORMATTER" "Ljava/util/function/BiFunction;" fm) ∧ (fm.isRef = true) ∧ (l.stackTraces = true) ∧ (Z.vm.MethodsKnown) ∧ (Sta Z Z.heap "java/lang/Throwable" "UNASSIGNED_STACK" "[Ljava/lang/StackTraceElement;" (.ref us)) ∧ (Sta Z Z.heap "java/lang/Throwable" "SUPPRESSED_SENTINEL" "Ljava/util/List;" (.ref ss)) ∧ (Sta Z Z.heap "java/lang/StringUTF16" "$assertionsDisabled" "Z" (.int (1 : Int32))) ∧ (Sta Z Z.heap "java/lang/StringUTF16" "HI_BYTE_SHIFT" "I" (.int (0 : Int32))) ∧ (Sta Z Z.heap "java/lang/StringUTF16" "LO_BYTE_SHIFT" "I" (.int (8 : Int32)))
variable {l : Launch} {Z : State} {a0 : Array Value} {n0 : Nat} {zc : Int32} {fm : Value} {us ss : Addr} {h : Heap}

theorem c_coder (hX : own_Ctx l Z a0 zc fm us ss) (hO : Old Z n0 h) (s : Addr) (F_c : Fld Z h s "java/lang/String" "coder" "B" (.int (0 : Int32))) :
    Con [] false l Z own_EL n0 [] (⟨"java/lang/String", "coder", "()B"⟩ : MethodName) B0 1 (some .byte) ({ frames := 0, cells := 0, slots := 0, locals := 0 } : Room) #[(.ref s)] h (fun v h' sf => v = some (.int (0 : Int32)) ∧ h = h') := by
  obtain ⟨hw, hEL, hcs, hcz, hfm, hfr, hst, hKn, hus, hss, had, hhi, hlo⟩ := id hX
  refine Con.intro (Ls := #[.val (.ref s)]) pn0 hEL hO (fun m => rfl) fun C vm T hl X hs => ?_
  have X : On C ({ frames := 0, cells := 0, slots := 0, locals := 0 } : Room) "java/lang/String" B0 1 (some .byte) "coder" false Z a0 own_EL n0 vm T h 0 0 := X
  refine X.getstatic i0_0 (hw _ wd_67) Via.refl (hcs.ext X.ext0) fun T1 X1 => ?_
  refine X1.ifN i0_3 (XT.i0_eq_f hcz) ?_
  refine X1.aload_n i0_6 rfl rfl ?_
  refine X1.getfield i0_7 (hw _ wd_21) Via.refl F_c fun T2 X2 => ?_
  refine X2.goto i0_10 j10_4 ?_
  exact X2.ireturn i0_14 (t := .byte) rfl (by decide) rfl (by decide) (by decide) (fun sf hsf => ⟨rfl, rfl⟩)
theorem c_infl (hX : own_Ctx l Z a0 zc fm us ss) (hO : Old Z n0 h) (sb : Addr) (s : Addr) (F_b : Fld Z h sb "java/lang/AbstractStringBuilder" "coder" "B" (.int (0 : Int32))) (E_s : Exa Z h s "java/lang/String") (F_c : Fld Z h s "java/lang/String" "coder" "B" (.int (0 : Int32))) :
    Con [] false l Z own_EL n0 [] (⟨"java/lang/AbstractStringBuilder", "inflateIfNeededFor", "(Ljava/lang/String;)V"⟩ : MethodName) B1 2 none ({ frames := 1, cells := 0, slots := 0, locals := 13 } : Room) #[(.ref sb), (.ref s)] h (fun v h' sf => v = none ∧ h = h') := by
  obtain ⟨hw, hEL, hcs, hcz, hfm, hfr, hst, hKn, hus, hss, had, hhi, hlo⟩ := id hX
  refine Con.intro (Ls := #[.val (.ref sb), .val (.ref s)]) pn1 hEL hO (fun m => rfl) fun C vm T hl X hs => ?_
  have X : On C ({ frames := 1, cells := 0, slots := 0, locals := 13 } : Room) "java/lang/AbstractStringBuilder" B1 2 none "inflateIfNeededFor" false Z a0 own_EL n0 vm T h 0 0 := X
  refine X.getstatic i1_0 (hw _ wd_42) Via.refl (hcs.ext X.ext0) fun T1 X1 => ?_
  refine X1.ifN i1_3 (XT.i0_eq_f hcz) ?_
  refine X1.aload_n i1_6 rfl rfl ?_
  refine X1.getfield i1_7 (hw _ wd_45) Via.refl F_b fun T2 X2 => ?_
  refine X2.aload_n i1_10 rfl rfl ?_
  refine X2.callV hl (argsL := []) (a := s) i1_11 (c_coder hX X2.old s F_c) E_s (hw _ wd_85) (hw _ wd_63) (hw _ wd_65) (nfSel X2.zw (hw _ wd_65)) (hw _ wd_64) (hw _ wd_2) (hw _ wd_66) (by decide) sf_nil pd0 rfl rfl rfl (W := 1) rfl (by decide) (by decide) (k' := 0) rfl (n' := 0) rfl (by decide) (by decide) fun vm3 T3 h3 v3 X3 r3 Q3 => ?_
  obtain ⟨rfl, rfl⟩ := Q3
  show Go _ _ _ _ _ _ _ _ _ _ [(.int (0 : Int32)), (.int (0 : Int32))]
  refine X3.icY i1_14 j14_7 (by decide) ?_
  exact X3.ret i1_21 rfl (by decide) (by decide) (fun sf hsf => ⟨rfl, rfl⟩)
theorem c_ens (hX : own_Ctx l Z a0 zc fm us ss) (hO : Old Z n0 h) (sb : Addr) (ar : Addr) (ka : ClassId) (vs : List Value) (m : Nat) (F_v : Fld Z h sb "java/lang/AbstractStringBuilder" "value" "[B" (.ref ar)) (F_c : Fld Z h sb "java/lang/AbstractStringBuilder" "coder" "B" (.int (0 : Int32))) (V_ar : Arv Z h ar ka .byte (16 : Int32) vs (.int (0 : Int32))) (hm : m ≤ 16) :
    Con [] false l Z own_EL n0 [] (⟨"java/lang/AbstractStringBuilder", "ensureCapacityInternal", "(I)V"⟩ : MethodName) B2 3 none ({ frames := 0, cells := 0, slots := 0, locals := 0 } : Room) #[(.ref sb), (.int (Int32.ofNat m))] h (fun v h' sf => v = none ∧ h = h') := by
  obtain ⟨hw, hEL, hcs, hcz, hfm, hfr, hst, hKn, hus, hss, had, hhi, hlo⟩ := id hX
  refine Con.intro (Ls := #[.val (.ref sb), .val (.int (Int32.ofNat m)), .unset]) pn2 hEL hO (fun m => rfl) fun C vm T hl X hs => ?_
  have X : On C ({ frames := 0, cells := 0, slots := 0, locals := 0 } : Room) "java/lang/AbstractStringBuilder" B2 3 none "ensureCapacityInternal" false Z a0 own_EL n0 vm T h 0 0 := X
  refine X.aload_n i2_0 rfl rfl ?_
  refine X.getfield i2_1 (hw _ wd_43) Via.refl F_v fun T1 X1 => ?_
  refine X1.arraylength i2_4 V_ar ?_
  refine X1.aload_n i2_5 rfl rfl ?_
  refine X1.getfield i2_6 (hw _ wd_45) Via.refl F_c fun T2 X2 => ?_
  refine X2.ishr i2_9 (z := (16 : Int32)) rfl ?_
  refine X2.istore_n i2_10 (Ls' := #[.val (.ref sb), .val (.int (Int32.ofNat m)), .val (.int (16 : Int32))]) rfl ?_
  refine X2.iload_n i2_11 rfl ?_
  refine X2.iload_n i2_12 rfl ?_
  refine X2.isub i2_13 (z := ((Int32.ofNat m) - (16 : Int32))) rfl ?_
  refine X2.ifY i2_14 j14_24 (XT.i0_le_t (own_room16 hm)) ?_
  exact X2.ret i2_38 rfl (by decide) (by decide) (fun sf hsf => ⟨rfl, rfl⟩)
theorem c_getb (hX : own_Ctx l Z a0 zc fm us ss) (hO : Old Z n0 h) (s : Addr) (t : Addr) (kb : ClassId) (cs : List Int32) (ar : Addr) (ka : ClassId) (bs : List Int32) (S_s : Str Z h s t kb cs) (V_ar : Arv Z h ar ka .byte (16 : Int32) (bs.map own_f) (.int (0 : Int32))) (g_ar : n0 ≤ ar) (lb : bs.length ≤ 16) (lc : (bs ++ cs).length ≤ 16) :
    Con [] false l Z own_EL n0 [ar] (⟨"java/lang/String", "getBytes", "([BIB)V"⟩ : MethodName) B3 4 none ({ frames := 1, cells := 0, slots := 0, locals := 18 } : Room) #[(.ref s), (.ref ar), (.int (Int32.ofNat bs.length)), (.int (0 : Int32))] h (fun v h' sf => v = none ∧ Keep h h' [ar] ∧ Arv Z h' ar ka .byte (16 : Int32) ((bs ++ cs).map own_f) (.int (0 : Int32)) ∧ sf ar) := by
  obtain ⟨hw, hEL, hcs, hcz, hfm, hfr, hst, hKn, hus, hss, had, hhi, hlo⟩ := id hX
  refine Con.intro (Ls := #[.val (.ref s), .val (.ref ar), .val (.int (Int32.ofNat bs.length)), .val (.int (0 : Int32))]) pn3 hEL hO (fun m => rfl) fun C vm T hl X hs => ?_
  have X : On C ({ frames := 1, cells := 0, slots := 0, locals := 18 } : Room) "java/lang/String" B3 4 none "getBytes" false Z a0 own_EL n0 vm T h 0 0 := X
  have sf_ar := hs ar (List.mem_of_getElem? (i := 0) rfl)
  have hl16 : bs.length + cs.length ≤ 16 := by rw [← List.length_append]; exact lc
  have lb4 : bs.length ≤ 4000 := by omega
  have lc4 : cs.length ≤ 4000 := by omega
  have Fv1 : Fld Z h s "java/lang/String" "value" "[B" (.ref t) := S_s.2.1
  have Fc1 : Fld Z h s "java/lang/String" "coder" "B" (.int (0 : Int32)) := S_s.2.2.1
  have Vt1 : Arv Z h t kb .byte (Int32.ofNat cs.length) (cs.map own_f) (.int (0 : Int32)) := S_s.2.2.2.1
  refine X.aload_n i3_0 rfl rfl ?_
  refine X.callV hl (argsL := []) (a := s) i3_1 (c_coder hX X.old s Fc1) S_s.1 (hw _ wd_62) (hw _ wd_63) (hw _ wd_65) (nfSel X.zw (hw _ wd_65)) (hw _ wd_64) (hw _ wd_2) (hw _ wd_66) (by decide) sf_nil pd0 rfl rfl rfl (W := 0) rfl (by decide) (by decide) (k' := 0) rfl (n' := 0) rfl (by decide) (by decide) fun vm2 T2 h2 v2 X2 r2 Q2 => ?_
  obtain ⟨rfl, rfl⟩ := Q2
  show Go _ _ _ _ _ _ _ _ _ _ [(.int (0 : Int32))]
  refine X2.iload_n i3_4 rfl ?_
  refine X2.icN i3_5 (by decide) ?_
  refine X2.aload_n i3_8 rfl rfl ?_
  refine X2.getfield i3_9 (hw _ wd_20) Via.refl Fv1 fun T3 X3 => ?_
  refine X3.iconst i3_12 (z := (0 : Int32)) rfl ?_
  refine X3.aload_n i3_13 rfl rfl ?_
  refine X3.iload_n i3_14 rfl ?_
  refine X3.iload_n i3_15 rfl ?_
  refine X3.ishl i3_16 (z := (Int32.ofNat bs.length)) (own_shl0 _) ?_
  refine X3.aload_n i3_17 rfl rfl ?_
  refine X3.getfield i3_18 (hw _ wd_20) Via.refl Fv1 fun T4 X4 => ?_
  refine X4.arraylength i3_21 Vt1 ?_
  have Sf6 := (r2).safe (V_ar).lt sf_ar
  have B5 := V_ar.pad (pad_rep (bs.map own_f) (.int (0 : Int32)) cs.length)
  refine X4.arraycopy i3_22 (hw _ wd_91) (hw _ wd_94) (hw _ wd_92) (hw _ wd_93) Vt1 B5 rfl (by decide) (own_nn lb4) (own_nn lc4) (by rw [own_tn lc4]; exact Nat.le_of_eq (Nat.zero_add _)) (by rw [own_tn lb4, own_tn lc4]; exact hl16) rfl (by rw [own_tn lb4, own_tn lc4]; simp) g_ar Sf6 rfl (by decide) (W := 0) rfl (by decide) fun T5 h5 X5 K5 V5 => ?_
  have V5 : Arv Z h5 ar ka .byte (16 : Int32) ((bs ++ cs).map own_f) (.int (0 : Int32)) := by rw [← own_cat bs cs (.int (0 : Int32)) lb4 lc4 (own_us cs (.int (0 : Int32)) _ (own_tn lc4))]; exact V5
  refine X5.goto i3_25 j25_18 ?_
  have Sf7 := ((CHr.keep K5 (sfS Sf6 sf0) X4.chv)).safe (Nat.lt_of_lt_of_le (V_ar).lt (Nat.le_refl _)) Sf6
  exact X5.ret i3_43 rfl (by decide) (by decide) (fun sf hsf => ⟨rfl, ((Keep.refl _ [ar]).trans K5 (allS (Or.inl (List.mem_of_getElem? (i := 0) rfl)) all0)), V5, hsf _ Sf7⟩)
theorem c_put (hX : own_Ctx l Z a0 zc fm us ss) (hO : Old Z n0 h) (sb : Addr) (s : Addr) (t : Addr) (kb : ClassId) (cs : List Int32) (ar : Addr) (ka : ClassId) (bs : List Int32) (S_s : Str Z h s t kb cs) (E_sb : Exa Z h sb "java/lang/StringBuilder") (F_v : Fld Z h sb "java/lang/AbstractStringBuilder" "value" "[B" (.ref ar)) (F_c : Fld Z h sb "java/lang/AbstractStringBuilder" "coder" "B" (.int (0 : Int32))) (V_ar : Arv Z h ar ka .byte (16 : Int32) (bs.map own_f) (.int (0 : Int32))) (g_ar : n0 ≤ ar) (lb : bs.length ≤ 16) (lc : (bs ++ cs).length ≤ 16) :
    Con [] false l Z own_EL n0 [ar] (⟨"java/lang/AbstractStringBuilder", "putStringAt", "(ILjava/lang/String;)V"⟩ : MethodName) B4 3 none ({ frames := 2, cells := 0, slots := 0, locals := 33 } : Room) #[(.ref sb), (.int (Int32.ofNat bs.length)), (.ref s)] h (fun v h' sf => v = none ∧ Keep h h' [ar] ∧ Arv Z h' ar ka .byte (16 : Int32) ((bs ++ cs).map own_f) (.int (0 : Int32)) ∧ sf ar) := by
  obtain ⟨hw, hEL, hcs, hcz, hfm, hfr, hst, hKn, hus, hss, had, hhi, hlo⟩ := id hX
  refine Con.intro (Ls := #[.val (.ref sb), .val (.int (Int32.ofNat bs.length)), .val (.ref s)]) pn4 hEL hO (fun m => rfl) fun C vm T hl X hs => ?_
  have X : On C ({ frames := 2, cells := 0, slots := 0, locals := 33 } : Room) "java/lang/AbstractStringBuilder" B4 3 none "putStringAt" false Z a0 own_EL n0 vm T h 0 0 := X
  have sf_ar := hs ar (List.mem_of_getElem? (i := 0) rfl)
  have Fv1 : Fld Z h s "java/lang/String" "value" "[B" (.ref t) := S_s.2.1
  have Fc1 : Fld Z h s "java/lang/String" "coder" "B" (.int (0 : Int32)) := S_s.2.2.1
  have Vt1 : Arv Z h t kb .byte (Int32.ofNat cs.length) (cs.map own_f) (.int (0 : Int32)) := S_s.2.2.2.1
  refine X.aload_n i4_0 rfl rfl ?_
  refine X.aload_n i4_1 rfl rfl ?_
  refine X.callP hl (argsL := [(.ref s)]) (a := sb) i4_2 (c_infl hX X.old sb s F_c S_s.1 Fc1) E_sb (hw _ wd_80) (hw _ wd_81) (selP (by decide) (hw _ wd_83) (hw _ wd_81) (hw _ wd_82)) (hw _ wd_82) (hw _ wd_39) (hw _ wd_84) (by decide) sf_nil pd1 rfl rfl rfl (W := 0) rfl (by decide) (by decide) (k' := 0) rfl (n' := 0) rfl (by decide) (by decide) fun vm2 T2 h2 v2 X2 r2 Q2 => ?_
  obtain ⟨rfl, rfl⟩ := Q2
  show Go _ _ _ _ _ _ _ _ _ _ []
  refine X2.aload_n i4_5 rfl rfl ?_
  refine X2.aload_n i4_6 rfl rfl ?_
  refine X2.getfield i4_7 (hw _ wd_43) Via.refl F_v fun T3 X3 => ?_
  refine X3.iload_n i4_10 rfl ?_
  refine X3.aload_n i4_11 rfl rfl ?_
  refine X3.getfield i4_12 (hw _ wd_45) Via.refl F_c fun T4 X4 => ?_
  have Sf6 := (r2).safe (V_ar).lt sf_ar
  refine X4.callV hl (argsL := [(.ref ar), (.int (Int32.ofNat bs.length)), (.int (0 : Int32))]) (a := s) i4_15 (c_getb hX X4.old s t kb cs ar ka bs S_s V_ar g_ar lb lc) S_s.1 (hw _ wd_86) (hw _ wd_87) (hw _ wd_89) (nfSel X4.zw (hw _ wd_89)) (hw _ wd_88) (hw _ wd_2) (hw _ wd_90) (by decide) (sf_cons ⟨Sf6, (Nat.lt_of_lt_of_le (V_ar).lt (Nat.le_refl _))⟩ sf_nil) pd2 rfl rfl rfl (W := 0) rfl (by decide) (by decide) (k' := 0) rfl (n' := 0) rfl (by decide) (by decide) fun vm5 T5 h5 v5 X5 r5 Q5 => ?_
  obtain ⟨rfl, q5_0, q5_1, q5_2⟩ := Q5
  show Go _ _ _ _ _ _ _ _ _ _ []
  exact X5.ret i4_18 rfl (by decide) (by decide) (fun sf hsf => ⟨rfl, ((Keep.refl _ [ar]).trans q5_0 (allS (Or.inl (List.mem_of_getElem? (i := 0) rfl)) all0)), q5_1, hsf _ q5_2⟩)
theorem c_aapp (hX : own_Ctx l Z a0 zc fm us ss) (hO : Old Z n0 h) (sb : Addr) (s : Addr) (t : Addr) (kb : ClassId) (cs : List Int32) (ar : Addr) (ka : ClassId) (bs : List Int32) (S_s : Str Z h s t kb cs) (E_sb : Exa Z h sb "java/lang/StringBuilder") (g_sb : n0 ≤ sb) (g_ar : n0 ≤ ar) (F_v : Fld Z h sb "java/lang/AbstractStringBuilder" "value" "[B" (.ref ar)) (F_c : Fld Z h sb "java/lang/AbstractStringBuilder" "coder" "B" (.int (0 : Int32))) (F_n : Fld Z h sb "java/lang/AbstractStringBuilder" "count" "I" (.int (Int32.ofNat bs.length))) (V_ar : Arv Z h ar ka .byte (16 : Int32) (bs.map own_f) (.int (0 : Int32))) (lb : bs.length ≤ 16) (lc : (bs ++ cs).length ≤ 16) (nes : sb ≠ ar) :
    Con [] false l Z own_EL n0 [ar] (⟨"java/lang/AbstractStringBuilder", "append", "(Ljava/lang/String;)Ljava/lang/AbstractStringBuilder;"⟩ : MethodName) B5 3 (some (.object "java/lang/AbstractStringBuilder")) ({ frames := 3, cells := 0, slots := 0, locals := 47 } : Room) #[(.ref sb), (.ref s)] h (fun v h' sf => v = some (.ref sb) ∧ Keep h h' [sb, ar] ∧ Fld Z h' sb "java/lang/AbstractStringBuilder" "value" "[B" (.ref ar) ∧ Fld Z h' sb "java/lang/AbstractStringBuilder" "coder" "B" (.int (0 : Int32)) ∧ Fld Z h' sb "java/lang/AbstractStringBuilder" "count" "I" (.int (Int32.ofNat (bs ++ cs).length)) ∧ Arv Z h' ar ka .byte (16 : Int32) ((bs ++ cs).map own_f) (.int (0 : Int32)) ∧ sf ar) := by
  obtain ⟨hw, hEL, hcs, hcz, hfm, hfr, hst, hKn, hus, hss, had, hhi, hlo⟩ := id hX
  refine Con.intro (Ls := #[.val (.ref sb), .val (.ref s), .unset]) pn5 hEL hO (fun m => rfl) fun C vm T hl X hs => ?_
  have X : On C ({ frames := 3, cells := 0, slots := 0, locals := 47 } : Room) "java/lang/AbstractStringBuilder" B5 3 (some (.object "java/lang/AbstractStringBuilder")) "append" false Z a0 own_EL n0 vm T h 0 0 := X
  have sf_ar := hs ar (List.mem_of_getElem? (i := 0) rfl)
  have lc4 : cs.length ≤ 4000 := by have := lc; rw [List.length_append] at this; omega
  refine X.aload_n i5_0 rfl rfl ?_
  refine X.nonnullY i5_1 j1_8 ?_
  refine X.aload_n i5_9 rfl rfl ?_
  refine own_strLen X hw i5_10 (hw _ wd_57) S_s lc4 hcs hcz rfl (W := 0) rfl (by decide) (by decide) (by decide) (by decide) rfl fun T1 X1 => ?_
  refine X1.istore_n i5_13 (Ls' := #[.val (.ref sb), .val (.ref s), .val (.int (Int32.ofNat cs.length))]) rfl ?_
  refine X1.aload_n i5_14 rfl rfl ?_
  refine X1.aload_n i5_15 rfl rfl ?_
  refine X1.getfield i5_16 (hw _ wd_68) Via.refl F_n fun T2 X2 => ?_
  refine X2.iload_n i5_19 rfl ?_
  refine X2.iadd i5_20 (z := (Int32.ofNat (bs ++ cs).length)) (own_addl bs cs) ?_
  refine X2.callP hl (argsL := [(.int (Int32.ofNat (bs ++ cs).length))]) (a := sb) i5_21 (c_ens hX X2.old sb ar ka (bs.map own_f) (bs ++ cs).length F_v F_c V_ar lc) E_sb (hw _ wd_70) (hw _ wd_71) (selP (by decide) (hw _ wd_73) (hw _ wd_71) (hw _ wd_72)) (hw _ wd_72) (hw _ wd_39) (hw _ wd_74) (by decide) sf_nil pd3 rfl rfl rfl (W := 0) rfl (by decide) (by decide) (k' := 0) rfl (n' := 0) rfl (by decide) (by decide) fun vm3 T3 h3 v3 X3 r3 Q3 => ?_
  obtain ⟨rfl, rfl⟩ := Q3
  show Go _ _ _ _ _ _ _ _ _ _ []
  refine X3.aload_n i5_24 rfl rfl ?_
  refine X3.aload_n i5_25 rfl rfl ?_
  refine X3.getfield i5_26 (hw _ wd_68) Via.refl F_n fun T4 X4 => ?_
  refine X4.aload_n i5_29 rfl rfl ?_
  have Sf6 := (r3).safe (V_ar).lt sf_ar
  refine X4.callP hl (argsL := [(.int (Int32.ofNat bs.length)), (.ref s)]) (a := sb) i5_30 (c_put hX X4.old sb s t kb cs ar ka bs S_s E_sb F_v F_c V_ar g_ar lb lc) E_sb (hw _ wd_75) (hw _ wd_76) (selP (by decide) (hw _ wd_78) (hw _ wd_76) (hw _ wd_77)) (hw _ wd_77) (hw _ wd_39) (hw _ wd_79) (by decide) (sf_cons ⟨Sf6, (Nat.lt_of_lt_of_le (V_ar).lt (Nat.le_refl _))⟩ sf_nil) pd4 rfl rfl rfl (W := 0) rfl (by decide) (by decide) (k' := 0) rfl (n' := 0) rfl (by decide) (by decide) fun vm5 T5 h5 v5 X5 r5 Q5 => ?_
  obtain ⟨rfl, q5_0, q5_1, q5_2⟩ := Q5
  show Go _ _ _ _ _ _ _ _ _ _ []
  refine X5.aload_n i5_33 rfl rfl ?_
  refine X5.dup i5_34 rfl ?_
  have F7 := (F_n.keep q5_0 (ninS nes nin0))
  refine X5.getfield i5_35 (hw _ wd_68) Via.refl F7 fun T8 X8 => ?_
  refine X8.iload_n i5_38 rfl ?_
  refine X8.iadd i5_39 (z := (Int32.ofNat (bs ++ cs).length)) (own_addl bs cs) ?_
  have E9 := (E_sb.keep q5_0)
  refine X8.putfield i5_40 (hw _ wd_68) Via.refl F7 E9 (Or.inl (hw _ wd_69)) (hw _ wd_30) (ty := .int) (by decide) rfl rfl g_sb (Safe.exa X8.zw.alike E9 (by decide) (by decide)) fun T10 h10 X10 W10 => ?_
  refine X10.aload_n i5_43 rfl rfl ?_
  have F11 := ((F_v.keep q5_0 (ninS nes nin0)).other W10 (Or.inr (slot_ne (Or.inl (hw _ wd_44)) (Or.inl (hw _ wd_69)) (by decide) (t := (.array .byte)) (t' := .int) (by decide) (by decide))))
  have F12 := ((F_c.keep q5_0 (ninS nes nin0)).other W10 (Or.inr (slot_ne (Or.inl (hw _ wd_46)) (Or.inl (hw _ wd_69)) (by decide) (t := .byte) (t' := .int) (by decide) (by decide))))
  have V13 := (q5_1.other W10 (Ne.symm nes))
  have Sf14 := ((CHr.wr W10 (Safe.exa X8.zw.alike E9 (by decide) (by decide)) X8.chv)).safe (q5_1).lt q5_2
  exact X10.areturn i5_44 rfl rfl rfl (by decide) (by decide) (fun sf hsf => ⟨rfl, (((Keep.refl _ [sb, ar]).trans q5_0 (allS (Or.inl (List.mem_of_getElem? (i := 1) rfl)) all0)).wr W10 (Or.inl (List.mem_of_getElem? (i := 0) rfl))), F11, F12, (F7.same W10), V13, hsf _ Sf14⟩)
theorem c_app (hX : own_Ctx l Z a0 zc fm us ss) (hO : Old Z n0 h) (sb : Addr) (s : Addr) (t : Addr) (kb : ClassId) (cs : List Int32) (ar : Addr) (ka : ClassId) (bs : List Int32) (S_s : Str Z h s t kb cs) (E_sb : Exa Z h sb "java/lang/StringBuilder") (g_sb : n0 ≤ sb) (g_ar : n0 ≤ ar) (F_v : Fld Z h sb "java/lang/AbstractStringBuilder" "value" "[B" (.ref ar)) (F_c : Fld Z h sb "java/lang/AbstractStringBuilder" "coder" "B" (.int (0 : Int32))) (F_n : Fld Z h sb "java/lang/AbstractStringBuilder" "count" "I" (.int (Int32.ofNat bs.length))) (V_ar : Arv Z h ar ka .byte (16 : Int32) (bs.map own_f) (.int (0 : Int32))) (lb : bs.length ≤ 16) (lc : (bs ++ cs).length ≤ 16) (nes : sb ≠ ar) :
    Con [] false l Z own_EL n0 [ar] (⟨"java/lang/StringBuilder", "append", "(Ljava/lang/String;)Ljava/lang/StringBuilder;"⟩ : MethodName) B6 2 (some (.object "java/lang/StringBuilder")) ({ frames := 4, cells := 0, slots := 0, locals := 61 } : Room) #[(.ref sb), (.ref s)] h (fun v h' sf => v = some (.ref sb) ∧ Keep h h' [sb, ar] ∧ Fld Z h' sb "java/lang/AbstractStringBuilder" "value" "[B" (.ref ar) ∧ Fld Z h' sb "java/lang/AbstractStringBuilder" "coder" "B" (.int (0 : Int32)) ∧ Fld Z h' sb "java/lang/AbstractStringBuilder" "count" "I" (.int (Int32.ofNat (bs ++ cs).length)) ∧ Arv Z h' ar ka .byte (16 : Int32) ((bs ++ cs).map own_f) (.int (0 : Int32)) ∧ sf ar) := by
  obtain ⟨hw, hEL, hcs, hcz, hfm, hfr, hst, hKn, hus, hss, had, hhi, hlo⟩ := id hX
  refine Con.intro (Ls := #[.val (.ref sb), .val (.ref s)]) pn6 hEL hO (fun m => rfl) fun C vm T hl X hs => ?_
  have X : On C ({ frames := 4, cells := 0, slots := 0, locals := 61 } : Room) "java/lang/StringBuilder" B6 2 (some (.object "java/lang/StringBuilder")) "append" false Z a0 own_EL n0 vm T h 0 0 := X
  have sf_ar := hs ar (List.mem_of_getElem? (i := 0) rfl)
  refine X.aload_n i6_0 rfl rfl ?_
  refine X.aload_n i6_1 rfl rfl ?_
  refine X.callU hl (argsL := [(.ref s)]) (a := sb) i6_2 (c_aapp hX X.old sb s t kb cs ar ka bs S_s E_sb g_sb g_ar F_v F_c F_n V_ar lb lc nes) E_sb (hw _ wd_52) (sameOf (hw _ wd_55) (by decide) (hw _ wd_73) rfl) (hw _ wd_53) (hw _ wd_54) (by decide) (hw _ wd_39) (hw _ wd_56) (sf_cons ⟨sf_ar, (V_ar).lt⟩ sf_nil) pd5 rfl rfl rfl (W := 0) rfl (by decide) (by decide) (k' := 0) rfl (n' := 0) rfl (by decide) (by decide) fun vm1 T1 h1 v1 X1 r1 Q1 => ?_
  obtain ⟨rfl, q1_0, q1_1, q1_2, q1_3, q1_4, q1_5⟩ := Q1
  show Go _ _ _ _ _ _ _ _ _ _ [(.ref sb)]
  refine X1.pop i6_5 rfl ?_
  refine X1.aload_n i6_6 rfl rfl ?_
  exact X1.areturn i6_7 rfl rfl rfl (by decide) (by decide) (fun sf hsf => ⟨rfl, ((Keep.refl _ [sb, ar]).trans q1_0 (allS (Or.inl (List.mem_of_getElem? (i := 0) rfl)) (allS (Or.inl (List.mem_of_getElem? (i := 1) rfl)) all0))), q1_1, q1_2, q1_3, q1_4, hsf _ q1_5⟩)
theorem c_asbi (hX : own_Ctx l Z a0 zc fm us ss) (hO : Old Z n0 h) (sb : Addr) (E_sb : Exa Z h sb "java/lang/StringBuilder") (g_sb : n0 ≤ sb) (F_v : Fld Z h sb "java/lang/AbstractStringBuilder" "value" "[B" .null) (F_c : Fld Z h sb "java/lang/AbstractStringBuilder" "coder" "B" (.int (0 : Int32))) (F_n : Fld Z h sb "java/lang/AbstractStringBuilder" "count" "I" (.int (0 : Int32))) (F_m : Fld Z h sb "java/lang/AbstractStringBuilder" "maybeLatin1" "Z" (.int (0 : Int32))) :
    Con [] false l Z own_EL n0 [] (⟨"java/lang/AbstractStringBuilder", "<init>", "(I)V"⟩ : MethodName) B7 2 none ({ frames := 1, cells := 1, slots := 16, locals := 12 } : Room) #[(.ref sb), (.int (16 : Int32))] h (fun v h' sf => ∃ (ar : Addr) (ka : ClassId), v = none ∧ Keep h h' [sb] ∧ Fld Z h' sb "java/lang/AbstractStringBuilder" "maybeLatin1" "Z" (.int (0 : Int32)) ∧ h.size ≤ ar ∧ Fld Z h' sb "java/lang/AbstractStringBuilder" "value" "[B" (.ref ar) ∧ Fld Z h' sb "java/lang/AbstractStringBuilder" "coder" "B" (.int (0 : Int32)) ∧ Fld Z h' sb "java/lang/AbstractStringBuilder" "count" "I" (.int (Int32.ofNat ([] : List Int32).length)) ∧ Arv Z h' ar ka .byte (16 : Int32) (([] : List Int32).map own_f) (.int (0 : Int32)) ∧ sf ar) := by
  obtain ⟨hw, hEL, hcs, hcz, hfm, hfr, hst, hKn, hus, hss, had, hhi, hlo⟩ := id hX
  refine Con.intro (Ls := #[.val (.ref sb), .val (.int (16 : Int32))]) pn7 hEL hO (fun m => rfl) fun C vm T hl X hs => ?_
  have X : On C ({ frames := 1, cells := 1, slots := 16, locals := 12 } : Room) "java/lang/AbstractStringBuilder" B7 2 none "<init>" false Z a0 own_EL n0 vm T h 0 0 := X
  refine X.aload_n i7_0 rfl rfl ?_
  refine X.initO i7_1 (hw _ wd_41) (hw _ wd_12) (hw _ wd_13) rfl (by decide) (W := 0) rfl (by decide) fun T1 X1 => ?_
  refine X1.getstatic i7_4 (hw _ wd_42) Via.refl (hcs.ext X1.ext0) fun T2 X2 => ?_
  refine X2.ifN i7_7 (XT.i0_eq_f hcz) ?_
  refine X2.aload_n i7_10 rfl rfl ?_
  refine X2.iload_n i7_11 rfl ?_
  refine X2.newarray i7_12 (ty := .byte) rfl (hw _ wd_15) (by decide) (cap := 16) (by decide) (by decide) (k' := 1) rfl (n' := 16) rfl (by decide) (by decide) fun T3 h3 a3 c3 X3 E3 z3 g3 V3 Sf3 => ?_
  have V3 : Arv Z h3 a3 c3 .byte (16 : Int32) [(.int (0 : Int32)), (.int (0 : Int32)), (.int (0 : Int32)), (.int (0 : Int32)), (.int (0 : Int32)), (.int (0 : Int32)), (.int (0 : Int32)), (.int (0 : Int32)), (.int (0 : Int32)), (.int (0 : Int32)), (.int (0 : Int32)), (.int (0 : Int32)), (.int (0 : Int32)), (.int (0 : Int32)), (.int (0 : Int32)), (.int (0 : Int32))] (.int (0 : Int32)) := V3.pad (pad_rep [] (.int (0 : Int32)) 16)
  have V4 : Arv Z h3 a3 c3 .byte (16 : Int32) (([] : List Int32).map own_f) (.int (0 : Int32)) := V3.pad (fun i => by rcases i with _ | _ | _ | _ | _ | _ | _ | _ | _ | _ | _ | _ | _ | _ | _ | _ | i <;> rfl)
  have F5 := (F_v.ext E3)
  have E6 := (E_sb.ext E3)
  refine X3.putfield i7_14 (hw _ wd_43) Via.refl F5 E6 (Or.inl (hw _ wd_44)) (hw _ wd_30) (ty := (.array .byte)) (by decide) rfl rfl g_sb (Safe.exa X3.zw.alike E6 (by decide) (by decide)) fun T7 h7 X7 W7 => ?_
  refine X7.aload_n i7_17 rfl rfl ?_
  refine X7.iconst i7_18 (z := (0 : Int32)) rfl ?_
  have F8 := ((F_c.ext E3).other W7 (Or.inr (slot_ne (Or.inl (hw _ wd_46)) (Or.inl (hw _ wd_44)) (by decide) (t := .byte) (t' := (.array .byte)) (by decide) (by decide))))
  have E9 := (E6.wr W7)
  refine X7.putfield i7_19 (hw _ wd_45) Via.refl F8 E9 (Or.inl (hw _ wd_46)) (hw _ wd_30) (ty := .byte) (by decide) rfl rfl g_sb (Safe.exa X7.zw.alike E9 (by decide) (by decide)) fun T10 h10 X10 W10 => ?_
  refine X10.goto i7_22 j22_16 ?_
  have F11 := (((F_m.ext E3).other W7 (Or.inr (slot_ne (Or.inl (hw _ wd_301)) (Or.inl (hw _ wd_44)) (by decide) (t := .boolean) (t' := (.array .byte)) (by decide) (by decide)))).other W10 (Or.inr (slot_ne (Or.inl (hw _ wd_301)) (Or.inl (hw _ wd_46)) (by decide) (t := .boolean) (t' := .byte) (by decide) (by decide))))
  have F12 := ((F5.same W7).other W10 (Or.inr (slot_ne (Or.inl (hw _ wd_44)) (Or.inl (hw _ wd_46)) (by decide) (t := (.array .byte)) (t' := .byte) (by decide) (by decide))))
  have F13 := (((F_n.ext E3).other W7 (Or.inr (slot_ne (Or.inl (hw _ wd_69)) (Or.inl (hw _ wd_44)) (by decide) (t := .int) (t' := (.array .byte)) (by decide) (by decide)))).other W10 (Or.inr (slot_ne (Or.inl (hw _ wd_69)) (Or.inl (hw _ wd_46)) (by decide) (t := .int) (t' := .byte) (by decide) (by decide))))
  have V14 := ((V4.other W7 (Nat.ne_of_gt (Nat.lt_of_lt_of_le (F_v).lt (Nat.le_of_eq z3)))).other W10 (Nat.ne_of_gt (Nat.lt_of_lt_of_le (F_v).lt (Nat.le_of_eq z3))))
  have Sf15 := (((CHr.wr W7 (Safe.exa X3.zw.alike E6 (by decide) (by decide)) X3.chv)).trans (CHr.wr W10 (Safe.exa X7.zw.alike E9 (by decide) (by decide)) X7.chv)).safe (V3).lt Sf3
  exact X10.ret i7_38 rfl (by decide) (by decide) (fun sf hsf => ⟨a3, c3, rfl, ((((Keep.refl _ [sb]).ext E3).wr W7 (Or.inl (List.mem_of_getElem? (i := 0) rfl))).wr W10 (Or.inl (List.mem_of_getElem? (i := 0) rfl))), F11, (Nat.le_of_eq z3), F12, (F8.same W10), F13, V14, hsf _ Sf15⟩)
theorem c_sbi (hX : own_Ctx l Z a0 zc fm us ss) (hO : Old Z n0 h) (sb : Addr) (E_sb : Exa Z h sb "java/lang/StringBuilder") (g_sb : n0 ≤ sb) (F_v : Fld Z h sb "java/lang/AbstractStringBuilder" "value" "[B" .null) (F_c : Fld Z h sb "java/lang/AbstractStringBuilder" "coder" "B" (.int (0 : Int32))) (F_n : Fld Z h sb "java/lang/AbstractStringBuilder" "count" "I" (.int (0 : Int32))) (F_m : Fld Z h sb "java/lang/AbstractStringBuilder" "maybeLatin1" "Z" (.int (0 : Int32))) :
    Con [] false l Z own_EL n0 [] (⟨"java/lang/StringBuilder", "<init>", "()V"⟩ : MethodName) B8 1 none ({ frames := 2, cells := 1, slots := 16, locals := 25 } : Room) #[(.ref sb)] h (fun v h' sf => ∃ (ar : Addr) (ka : ClassId), v = none ∧ Keep h h' [sb] ∧ Fld Z h' sb "java/lang/AbstractStringBuilder" "maybeLatin1" "Z" (.int (0 : Int32)) ∧ h.size ≤ ar ∧ Fld Z h' sb "java/lang/AbstractStringBuilder" "value" "[B" (.ref ar) ∧ Fld Z h' sb "java/lang/AbstractStringBuilder" "coder" "B" (.int (0 : Int32)) ∧ Fld Z h' sb "java/lang/AbstractStringBuilder" "count" "I" (.int (Int32.ofNat ([] : List Int32).length)) ∧ Arv Z h' ar ka .byte (16 : Int32) (([] : List Int32).map own_f) (.int (0 : Int32)) ∧ sf ar) := by
  obtain ⟨hw, hEL, hcs, hcz, hfm, hfr, hst, hKn, hus, hss, had, hhi, hlo⟩ := id hX
  refine Con.intro (Ls := #[.val (.ref sb)]) pn8 hEL hO (fun m => rfl) fun C vm T hl X hs => ?_
  have X : On C ({ frames := 2, cells := 1, slots := 16, locals := 25 } : Room) "java/lang/StringBuilder" B8 1 none "<init>" false Z a0 own_EL n0 vm T h 0 0 := X
  refine X.aload_n i8_0 rfl rfl ?_
  refine X.bipush i8_1 (z := (16 : Int32)) rfl ?_
  refine X.callI hl (argsL := [(.int (16 : Int32))]) (a := sb) i8_3 (c_asbi hX X.old sb E_sb g_sb F_v F_c F_n F_m) (hw _ wd_35) (hw _ wd_36) (hw _ wd_39) (hw _ wd_40) rfl (by decide) sf_nil pd3 rfl rfl rfl (W := 0) rfl (by decide) (by decide) (k' := 1) rfl (n' := 16) rfl (by decide) (by decide) fun vm1 T1 h1 v1 X1 r1 Q1 => ?_
  obtain ⟨ar_1, ka_1, rfl, q1_0, q1_1, q1_2, q1_3, q1_4, q1_5, q1_6, q1_7⟩ := Q1
  have g2 := Nat.le_trans X.n0le q1_2
  show Go _ _ _ _ _ _ _ _ _ _ []
  exact X1.ret i8_6 rfl (by decide) (by decide) (fun sf hsf => ⟨ar_1, ka_1, rfl, ((Keep.refl _ [sb]).trans q1_0 (allS (Or.inl (List.mem_of_getElem? (i := 0) rfl)) all0)), q1_1, q1_2, q1_3, q1_4, q1_5, q1_6, hsf _ q1_7⟩)
theorem c_se4 (hX : own_Ctx l Z a0 zc fm us ss) (hO : Old Z n0 h) (x : Addr) (c0 : Addr) (E_x : Exa Z h x "java/lang/String") (g_x : n0 ≤ x) (F_v : Fld Z h x "java/lang/String" "value" "[B" .null) (F_c : Fld Z h x "java/lang/String" "coder" "B" (.int (0 : Int32))) :
    Con [] false l Z own_EL n0 [x] (⟨"java/lang/String", "<init>", "([CIILjava/lang/Void;)V"⟩ : MethodName) B9 6 none ({ frames := 1, cells := 4, slots := 8, locals := 12 } : Room) #[(.ref x), (.ref c0), (.int (0 : Int32)), (.int (0 : Int32)), .null] h (fun v h' sf => ∃ (t : Addr) (kb : ClassId), v = none ∧ Keep h h' [x] ∧ Str Z h' x t kb ([] : List Int32)) := by
  obtain ⟨hw, hEL, hcs, hcz, hfm, hfr, hst, hKn, hus, hss, had, hhi, hlo⟩ := id hX
  refine Con.intro (Ls := #[.val (.ref x), .val (.ref c0), .val (.int (0 : Int32)), .val (.int (0 : Int32)), .val .null, .unset]) pn9 hEL hO (fun m => rfl) fun C vm T hl X hs => ?_
  have X : On C ({ frames := 1, cells := 4, slots := 8, locals := 12 } : Room) "java/lang/String" B9 6 none "<init>" false Z a0 own_EL n0 vm T h 0 0 := X
  have sf_x := hs x (List.mem_of_getElem? (i := 0) rfl)
  refine X.aload_n i9_0 rfl rfl ?_
  refine X.initO i9_1 (hw _ wd_11) (hw _ wd_12) (hw _ wd_13) rfl (by decide) (W := 0) rfl (by decide) fun T1 X1 => ?_
  refine X1.iload_n i9_4 rfl ?_
  refine X1.ifN i9_5 (by decide) ?_
  refine X1.aload_n i9_8 rfl rfl ?_
  refine X1.ldcS rfl (cs := ([] : List Int32)) i9_9 (hw _ wd_14) (own_wS hw) (List.mem_of_getElem? (i := 2) rfl) lt0_a lt0_b lt0_c (Nat.le_of_ble_eq_true rfl) (nn := 0) (Nat.le_of_eq lt0_d) (by decide) (k' := 2) rfl (n' := 4) rfl (by decide) (by decide) fun vm2 T2 h2 a2 t2 b2 X2 E2 r2 S2 ne2 => ?_
  have Sf3 := (r2).safe (E_x).lt sf_x
  refine X2.getfield i9_11 (hw _ wd_20) Via.refl S2.2.1 fun T4 X4 => ?_
  have F5 := (F_v.ext E2)
  have E6 := (E_x.ext E2)
  refine X4.putfield i9_14 (hw _ wd_20) Via.refl F5 E6 (Or.inr ⟨(hw _ wd_16), rfl, rfl⟩) (hw _ wd_1) (ty := (.array .byte)) (by decide) rfl rfl g_x Sf3 fun T7 h7 X7 W7 => ?_
  refine X7.aload_n i9_17 rfl rfl ?_
  refine X7.ldcS rfl (cs := ([] : List Int32)) i9_18 (hw _ wd_14) (own_wS hw) (List.mem_of_getElem? (i := 2) rfl) lt0_a lt0_b lt0_c (Nat.le_of_ble_eq_true rfl) (nn := 0) (Nat.le_of_eq lt0_d) (by decide) (k' := 4) rfl (n' := 8) rfl (by decide) (by decide) fun vm8 T8 h8 a8 t8 b8 X8 E8 r8 S8 ne8 => ?_
  refine X8.getfield i9_20 (hw _ wd_21) Via.refl S8.2.2.1 fun T9 X9 => ?_
  have F10 := (((F_c.ext E2).other W7 (Or.inr (slot_ne (Or.inr (hw _ wd_17)) (Or.inr (hw _ wd_16)) (by decide) (t := .byte) (t' := (.array .byte)) (by decide) (by decide)))).ext E8)
  have E11 := ((E6.wr W7).ext E8)
  have Sf13 := (((CHr.wr W7 Sf3 X4.chv)).trans r8).safe (E6).lt Sf3
  refine X9.putfield i9_23 (hw _ wd_21) Via.refl F10 E11 (Or.inr ⟨(hw _ wd_17), rfl, rfl⟩) (hw _ wd_1) (ty := .byte) (by decide) rfl rfl g_x Sf13 fun T12 h12 X12 W12 => ?_
  have E14 := (E11.wr W12)
  have F15 := (((F5.same W7).ext E8).other W12 (Or.inr (slot_ne (Or.inr (hw _ wd_16)) (Or.inr (hw _ wd_17)) (by decide) (t := (.array .byte)) (t' := .byte) (by decide) (by decide))))
  have V16 := (((S2.2.2.2.1.other W7 (Ne.symm (ne2 x Sf3).2)).ext E8).other W12 (Ne.symm (ne2 x Sf3).2))
  exact X12.ret i9_26 rfl (by decide) (by decide) (fun sf hsf => ⟨t2, b2, rfl, (((((Keep.refl _ [x]).ext E2).wr W7 (Or.inl (List.mem_of_getElem? (i := 0) rfl))).ext E8).wr W12 (Or.inl (List.mem_of_getElem? (i := 0) rfl))), ⟨E14, F15, (F10.same W12), V16, own_all0⟩⟩)
theorem c_se1 (hX : own_Ctx l Z a0 zc fm us ss) (hO : Old Z n0 h) (x : Addr) (c0 : Addr) (kc : ClassId) (d0 : Value) (E_x : Exa Z h x "java/lang/String") (g_x : n0 ≤ x) (F_v : Fld Z h x "java/lang/String" "value" "[B" .null) (F_c : Fld Z h x "java/lang/String" "coder" "B" (.int (0 : Int32))) (V_c : Arv Z h c0 kc .char (0 : Int32) [] d0) :
    Con [] false l Z own_EL n0 [x] (⟨"java/lang/String", "<init>", "([C)V"⟩ : MethodName) B10 2 none ({ frames := 2, cells := 4, slots := 8, locals := 29 } : Room) #[(.ref x), (.ref c0)] h (fun v h' sf => ∃ (t : Addr) (kb : ClassId), v = none ∧ Keep h h' [x] ∧ Str Z h' x t kb ([] : List Int32)) := by
  obtain ⟨hw, hEL, hcs, hcz, hfm, hfr, hst, hKn, hus, hss, had, hhi, hlo⟩ := id hX
  refine Con.intro (Ls := #[.val (.ref x), .val (.ref c0)]) pn10 hEL hO (fun m => rfl) fun C vm T hl X hs => ?_
  have X : On C ({ frames := 2, cells := 4, slots := 8, locals := 29 } : Room) "java/lang/String" B10 2 none "<init>" false Z a0 own_EL n0 vm T h 0 0 := X
  have sf_x := hs x (List.mem_of_getElem? (i := 0) rfl)
  refine X.aload_n i10_0 rfl rfl ?_
  refine X.aload_n i10_1 rfl rfl ?_
  refine X.iconst i10_2 (z := (0 : Int32)) rfl ?_
  refine X.aload_n i10_3 rfl rfl ?_
  refine X.arraylength i10_4 V_c ?_
  refine X.aconst_null i10_5 ?_
  refine X.callI hl (argsL := [(.ref c0), (.int (0 : Int32)), (.int (0 : Int32)), .null]) (a := x) i10_6 (c_se4 hX X.old x c0 E_x g_x F_v F_c) (hw _ wd_7) (hw _ wd_8) (hw _ wd_2) (hw _ wd_10) rfl (by decide) (sf_cons ⟨sf_x, (E_x).lt⟩ sf_nil) pd6 rfl rfl rfl (W := 0) rfl (by decide) (by decide) (k' := 4) rfl (n' := 8) rfl (by decide) (by decide) fun vm1 T1 h1 v1 X1 r1 Q1 => ?_
  obtain ⟨t_1, kb_1, rfl, q1_0, q1_1⟩ := Q1
  show Go _ _ _ _ _ _ _ _ _ _ []
  exact X1.ret i10_9 rfl (by decide) (by decide) (fun sf hsf => ⟨t_1, kb_1, rfl, ((Keep.refl _ [x]).trans q1_0 (allS (Or.inl (List.mem_of_getElem? (i := 0) rfl)) all0)), q1_1⟩)
theorem c_can (hX : own_Ctx l Z a0 zc fm us ss) (hO : Old Z n0 h) (c : Int32) (lx : own_lat c) :
    Con [] false l Z own_EL n0 [] (⟨"java/lang/StringLatin1", "canEncode", "(C)Z"⟩ : MethodName) B11 1 (some .boolean) ({ frames := 0, cells := 0, slots := 0, locals := 0 } : Room) #[(.int c)] h (fun v h' sf => v = some (.int (1 : Int32)) ∧ h = h') := by
  obtain ⟨hw, hEL, hcs, hcz, hfm, hfr, hst, hKn, hus, hss, had, hhi, hlo⟩ := id hX
  refine Con.intro (Ls := #[.val (.int c)]) pn11 hEL hO (fun m => rfl) fun C vm T hl X hs => ?_
  have X : On C ({ frames := 0, cells := 0, slots := 0, locals := 0 } : Room) "java/lang/StringLatin1" B11 1 (some .boolean) "canEncode" false Z a0 own_EL n0 vm T h 0 0 := X
  refine X.iload_n i11_0 rfl ?_
  refine X.sipush i11_1 (z := (255 : Int32)) rfl ?_
  refine X.icN i11_4 (XT.ii_gt_f lx.2) ?_
  refine X.iconst i11_7 (z := (1 : Int32)) rfl ?_
  refine X.goto i11_8 j8_4 ?_
  exact X.ireturn i11_12 (t := .boolean) rfl (by decide) rfl (by decide) (by decide) (fun sf hsf => ⟨rfl, rfl⟩)
theorem c_tob (hX : own_Ctx l Z a0 zc fm us ss) (hO : Old Z n0 h) (c : Int32)  :
    Con [] false l Z own_EL n0 [] (⟨"java/lang/StringLatin1", "toBytes", "(C)[B"⟩ : MethodName) B12 1 (some (.array .byte)) ({ frames := 0, cells := 1, slots := 1, locals := 0 } : Room) #[(.int c)] h (fun v h' sf => ∃ (r : Addr) (kr : ClassId), v = some (.ref r) ∧ Ext h h' ∧ h.size ≤ r ∧ Arv Z h' r kr .byte (1 : Int32) [(.int (c.toInt8.toInt32))] (.int (0 : Int32))) := by
  obtain ⟨hw, hEL, hcs, hcz, hfm, hfr, hst, hKn, hus, hss, had, hhi, hlo⟩ := id hX
  refine Con.intro (Ls := #[.val (.int c)]) pn12 hEL hO (fun m => rfl) fun C vm T hl X hs => ?_
  have X : On C ({ frames := 0, cells := 1, slots := 1, locals := 0 } : Room) "java/lang/StringLatin1" B12 1 (some (.array .byte)) "toBytes" false Z a0 own_EL n0 vm T h 0 0 := X
  refine X.iconst i12_0 (z := (1 : Int32)) rfl ?_
  refine X.newarray i12_1 (ty := .byte) rfl (hw _ wd_15) (by decide) (cap := 1) (by decide) (by decide) (k' := 1) rfl (n' := 1) rfl (by decide) (by decide) fun T1 h1 a1 c1 X1 E1 z1 g1 V1 Sf1 => ?_
  have V1 : Arv Z h1 a1 c1 .byte (1 : Int32) [(.int (0 : Int32))] (.int (0 : Int32)) := V1.pad (pad_rep [] (.int (0 : Int32)) 1)
  refine X1.dup i12_3 rfl ?_
  refine X1.iconst i12_4 (z := (0 : Int32)) rfl ?_
  refine X1.iload_n i12_5 rfl ?_
  refine X1.i2b i12_6 (z := (c.toInt8.toInt32)) rfl ?_
  refine X1.bastore i12_7 V1 ⟨by decide, by decide⟩ (i := 0) rfl (Nat.le_of_ble_eq_true rfl) (y := (c.toInt8.toInt32)) (own_narB _) g1 Sf1 fun T2 h2 X2 W2 V2 => ?_
  have V2 : Arv Z h2 a1 c1 .byte (1 : Int32) [(.int (c.toInt8.toInt32))] (.int (0 : Int32)) := V2
  exact X2.areturn i12_8 rfl rfl rfl (by decide) (by decide) (fun sf hsf => ⟨a1, c1, rfl, (ext_wr E1 W2 (Nat.le_of_eq z1)), (Nat.le_of_eq z1), V2⟩)
theorem c_sbb (hX : own_Ctx l Z a0 zc fm us ss) (hO : Old Z n0 h) (x : Addr) (r : Addr) (E_x : Exa Z h x "java/lang/String") (g_x : n0 ≤ x) (F_xv : Fld Z h x "java/lang/String" "value" "[B" .null) (F_xc : Fld Z h x "java/lang/String" "coder" "B" (.int (0 : Int32))) :
    Con [] false l Z own_EL n0 [x] (⟨"java/lang/String", "<init>", "([BB)V"⟩ : MethodName) B13 3 none ({ frames := 1, cells := 0, slots := 0, locals := 12 } : Room) #[(.ref x), (.ref r), (.int (0 : Int32))] h (fun v h' sf => v = none ∧ Keep h h' [x] ∧ Exa Z h' x "java/lang/String" ∧ Fld Z h' x "java/lang/String" "value" "[B" (.ref r) ∧ Fld Z h' x "java/lang/String" "coder" "B" (.int (0 : Int32))) := by
  obtain ⟨hw, hEL, hcs, hcz, hfm, hfr, hst, hKn, hus, hss, had, hhi, hlo⟩ := id hX
  refine Con.intro (Ls := #[.val (.ref x), .val (.ref r), .val (.int (0 : Int32))]) pn13 hEL hO (fun m => rfl) fun C vm T hl X hs => ?_
  have X : On C ({ frames := 1, cells := 0, slots := 0, locals := 12 } : Room) "java/lang/String" B13 3 none "<init>" false Z a0 own_EL n0 vm T h 0 0 := X
  have sf_x := hs x (List.mem_of_getElem? (i := 0) rfl)
  refine X.aload_n i13_0 rfl rfl ?_
  refine X.initO i13_1 (hw _ wd_11) (hw _ wd_12) (hw _ wd_13) rfl (by decide) (W := 0) rfl (by decide) fun T1 X1 => ?_
  refine X1.aload_n i13_4 rfl rfl ?_
  refine X1.aload_n i13_5 rfl rfl ?_
  refine X1.putfield i13_6 (hw _ wd_20) Via.refl F_xv E_x (Or.inr ⟨(hw _ wd_16), rfl, rfl⟩) (hw _ wd_1) (ty := (.array .byte)) (by decide) rfl rfl g_x sf_x fun T2 h2 X2 W2 => ?_
  refine X2.aload_n i13_9 rfl rfl ?_
  refine X2.iload_n i13_10 rfl ?_
  have F3 := (F_xc.other W2 (Or.inr (slot_ne (Or.inr (hw _ wd_17)) (Or.inr (hw _ wd_16)) (by decide) (t := .byte) (t' := (.array .byte)) (by decide) (by decide))))
  have E4 := (E_x.wr W2)
  have Sf6 := ((CHr.wr W2 sf_x X1.chv)).safe (F_xc).lt sf_x
  refine X2.putfield i13_11 (hw _ wd_21) Via.refl F3 E4 (Or.inr ⟨(hw _ wd_17), rfl, rfl⟩) (hw _ wd_1) (ty := .byte) (by decide) rfl rfl g_x Sf6 fun T5 h5 X5 W5 => ?_
  have E7 := (E4.wr W5)
  have F8 := ((F_xv.same W2).other W5 (Or.inr (slot_ne (Or.inr (hw _ wd_16)) (Or.inr (hw _ wd_17)) (by decide) (t := (.array .byte)) (t' := .byte) (by decide) (by decide))))
  exact X5.ret i13_14 rfl (by decide) (by decide) (fun sf hsf => ⟨rfl, (((Keep.refl _ [x]).wr W2 (Or.inl (List.mem_of_getElem? (i := 0) rfl))).wr W5 (Or.inl (List.mem_of_getElem? (i := 0) rfl))), E7, F8, (F3.same W5)⟩)
theorem c_vof (hX : own_Ctx l Z a0 zc fm us ss) (hO : Old Z n0 h) (c : Int32) (lx : own_lat c) :
    Con [] false l Z own_EL n0 [] (⟨"java/lang/String", "valueOf", "(C)Ljava/lang/String;"⟩ : MethodName) B14 1 (some (.object "java/lang/String")) ({ frames := 2, cells := 2, slots := 5, locals := 27 } : Room) #[(.int c)] h (fun v h' sf => ∃ (x : Addr) (t : Addr) (kt : ClassId), v = some (.ref x) ∧ Ext h h' ∧ h.size ≤ x ∧ Str Z h' x t kt [c]) := by
  obtain ⟨hw, hEL, hcs, hcz, hfm, hfr, hst, hKn, hus, hss, had, hhi, hlo⟩ := id hX
  refine Con.intro (Ls := #[.val (.int c)]) pn14 hEL hO (fun m => rfl) fun C vm T hl X hs => ?_
  have X : On C ({ frames := 2, cells := 2, slots := 5, locals := 27 } : Room) "java/lang/String" B14 1 (some (.object "java/lang/String")) "valueOf" false Z a0 own_EL n0 vm T h 0 0 := X
  refine X.getstatic i14_0 (hw _ wd_67) Via.refl (hcs.ext X.ext0) fun T1 X1 => ?_
  refine X1.ifN i14_3 (XT.i0_eq_f hcz) ?_
  refine X1.iload_n i14_6 rfl ?_
  refine X1.callS hl (argsL := [(.int c)]) i14_7 (c_can hX X1.old c lx) (hw _ wd_305) (hw _ wd_306) (hw _ wd_235) (hw _ wd_307) (by decide) sf_nil pd7 rfl rfl rfl (W := 0) rfl (by decide) (by decide) (k' := 0) rfl (n' := 0) rfl (by decide) (by decide) fun vm2 T2 h2 v2 X2 r2 Q2 => ?_
  obtain ⟨rfl, rfl⟩ := Q2
  show Go _ _ _ _ _ _ _ _ _ _ [(.int (1 : Int32))]
  refine X2.ifN i14_10 (by decide) ?_
  refine X2.new i14_13 (hw _ wd_232) (hw _ wd_1) (hw _ wd_2) (k' := 1) rfl (n' := 4) rfl (by decide) (by decide) fun T3 h3 a3 X3 E3 z3 g3 A3 D3 U3 Sf3 => ?_
  refine X3.dup i14_16 rfl ?_
  refine X3.iload_n i14_17 rfl ?_
  refine X3.callS hl (argsL := [(.int c)]) i14_18 (c_tob hX X3.old c ) (hw _ wd_308) (hw _ wd_309) (hw _ wd_235) (hw _ wd_310) (by decide) sf_nil pd8 rfl rfl rfl (W := 2) rfl (by decide) (by decide) (k' := 2) rfl (n' := 5) rfl (by decide) (by decide) fun vm4 T4 h4 v4 X4 r4 Q4 => ?_
  obtain ⟨r_4, kr_4, rfl, q4_0, q4_1, q4_2⟩ := Q4
  have g5 := Nat.le_trans X3.n0le q4_1
  show Go _ _ _ _ _ _ _ _ _ _ [(.ref r_4), (.ref a3), (.ref a3)]
  refine X4.iconst i14_21 (z := (0 : Int32)) rfl ?_
  have E6 := (A3.ext q4_0)
  have F7 : Fld Z h3 a3 "java/lang/String" "value" "[B" .null := D3 (Or.inr (hw _ wd_16)) (ty := (.array .byte)) (by decide)
  have F8 := (F7.ext q4_0)
  have F9 : Fld Z h3 a3 "java/lang/String" "coder" "B" (.int (0 : Int32)) := D3 (Or.inr (hw _ wd_17)) (ty := .byte) (by decide)
  have F10 := (F9.ext q4_0)
  have Sf12 := (r4).safe (A3).lt Sf3
  refine X4.callI hl (argsL := [(.ref r_4), (.int (0 : Int32))]) (a := a3) i14_22 (c_sbb hX X4.old a3 r_4 E6 g3 F8 F10) (hw _ wd_311) (hw _ wd_312) (hw _ wd_2) (hw _ wd_313) rfl (by decide) (sf_cons ⟨Sf12, (E6).lt⟩ sf_nil) pd9 rfl rfl rfl (W := 1) rfl (by decide) (by decide) (k' := 2) rfl (n' := 5) rfl (by decide) (by decide) fun vm11 T11 h11 v11 X11 r11 Q11 => ?_
  obtain ⟨rfl, q11_0, q11_1, q11_2, q11_3⟩ := Q11
  show Go _ _ _ _ _ _ _ _ _ _ [(.ref a3)]
  have V13 := (q4_2.keep q11_0 (ninS (Nat.ne_of_gt (Nat.lt_of_lt_of_le (A3).lt q4_1)) nin0))
  exact X11.areturn i14_25 rfl rfl rfl (by decide) (by decide) (fun sf hsf => ⟨a3, r_4, kr_4, rfl, (ext_keep (ext_trans E3 q4_0) q11_0 (allS (Nat.le_trans (Nat.le_refl _) (Nat.le_of_eq z3)) all0)), (Nat.le_trans (Nat.le_refl _) (Nat.le_of_eq z3)), ⟨q11_1, q11_2, q11_3, V13, own_allS lx own_all0⟩⟩)
theorem c_nbl (hX : own_Ctx l Z a0 zc fm us ss) (hO : Old Z n0 h) (m : Nat) (hm : m ≤ 4000) :
    Con [] false l Z own_EL n0 [] (⟨"java/lang/StringUTF16", "newBytesLength", "(I)I"⟩ : MethodName) B15 1 (some .int) ({ frames := 0, cells := 0, slots := 0, locals := 0 } : Room) #[(.int (Int32.ofNat m))] h (fun v h' sf => v = some (.int (Int32.ofNat (2 * m))) ∧ h = h') := by
  obtain ⟨hw, hEL, hcs, hcz, hfm, hfr, hst, hKn, hus, hss, had, hhi, hlo⟩ := id hX
  refine Con.intro (Ls := #[.val (.int (Int32.ofNat m))]) pn15 hEL hO (fun m => rfl) fun C vm T hl X hs => ?_
  have X : On C ({ frames := 0, cells := 0, slots := 0, locals := 0 } : Room) "java/lang/StringUTF16" B15 1 (some .int) "newBytesLength" false Z a0 own_EL n0 vm T h 0 0 := X
  refine X.iload_n i15_0 rfl ?_
  refine X.ifY i15_1 j1_11 (XT.i0_ge_t (own_nn8 (by omega))) ?_
  refine X.iload_n i15_12 rfl ?_
  refine X.ldcI i15_13 (hw _ wd_262) ?_
  refine X.icY i15_15 j15_40 (XT.ii_lt_t (own_ltM hm)) ?_
  refine X.iload_n i15_55 rfl ?_
  refine X.iconst i15_56 (z := (1 : Int32)) rfl ?_
  refine X.ishl i15_57 (z := (Int32.ofNat (2 * m))) (own_shl1 hm) ?_
  exact X.ireturn i15_58 (t := .int) rfl (by decide) rfl (by decide) (by decide) (fun sf hsf => ⟨rfl, rfl⟩)
theorem c_nbf (hX : own_Ctx l Z a0 zc fm us ss) (hO : Old Z n0 h) (m : Nat) (hm : m ≤ 22) :
    Con [] false l Z own_EL n0 [] (⟨"java/lang/StringUTF16", "newBytesFor", "(I)[B"⟩ : MethodName) B16 1 (some (.array .byte)) ({ frames := 1, cells := 1, slots := 44, locals := 12 } : Room) #[(.int (Int32.ofNat m))] h (fun v h' sf => ∃ (r : Addr) (kr : ClassId), v = some (.ref r) ∧ Ext h h' ∧ h.size ≤ r ∧ Arv Z h' r kr .byte (Int32.ofNat (2 * m)) (own_wb ([] : List Int32)) (.int (0 : Int32)) ∧ sf r) := by
  obtain ⟨hw, hEL, hcs, hcz, hfm, hfr, hst, hKn, hus, hss, had, hhi, hlo⟩ := id hX
  refine Con.intro (Ls := #[.val (.int (Int32.ofNat m))]) pn16 hEL hO (fun m => rfl) fun C vm T hl X hs => ?_
  have X : On C ({ frames := 1, cells := 1, slots := 44, locals := 12 } : Room) "java/lang/StringUTF16" B16 1 (some (.array .byte)) "newBytesFor" false Z a0 own_EL n0 vm T h 0 0 := X
  refine X.iload_n i16_0 rfl ?_
  refine X.callS hl (argsL := [(.int (Int32.ofNat m))]) i16_1 (c_nbl hX X.old m (Nat.le_trans hm (by decide))) (hw _ wd_259) (hw _ wd_260) (hw _ wd_245) (hw _ wd_261) (by decide) sf_nil pd10 rfl rfl rfl (W := 0) rfl (by decide) (by decide) (k' := 0) rfl (n' := 0) rfl (by decide) (by decide) fun vm1 T1 h1 v1 X1 r1 Q1 => ?_
  obtain ⟨rfl, rfl⟩ := Q1
  show Go _ _ _ _ _ _ _ _ _ _ [(.int (Int32.ofNat (2 * m)))]
  refine X1.newarray i16_4 (ty := .byte) rfl (hw _ wd_15) (own_nn8 (by omega)) (cap := 44) (by rw [own_tn8 (by omega)]; omega) (by decide) (k' := 1) rfl (n' := 44) rfl (by decide) (by decide) fun T2 h2 a2 c2 X2 E2 z2 g2 V2 Sf2 => ?_
  have V2 : Arv Z h2 a2 c2 .byte (Int32.ofNat (2 * m)) (own_wb ([] : List Int32)) (.int (0 : Int32)) := V2
  exact X2.areturn i16_6 rfl rfl rfl (by decide) (by decide) (fun sf hsf => ⟨a2, c2, rfl, E2, (Nat.le_trans (Nat.le_refl _) (Nat.le_of_eq z2)), V2, hsf _ Sf2⟩)
theorem c_ulen (hX : own_Ctx l Z a0 zc fm us ss) (hO : Old Z n0 h) (ar : Addr) (ka : ClassId) (m : Nat) (vs : List Value) (V_ar : Arv Z h ar ka .byte (Int32.ofNat (2 * m)) vs (.int (0 : Int32))) (hm : m ≤ 4000) :
    Con [] false l Z own_EL n0 [] (⟨"java/lang/StringUTF16", "length", "([B)I"⟩ : MethodName) B17 1 (some .int) ({ frames := 0, cells := 0, slots := 0, locals := 0 } : Room) #[(.ref ar)] h (fun v h' sf => v = some (.int (Int32.ofNat m)) ∧ h = h') := by
  obtain ⟨hw, hEL, hcs, hcz, hfm, hfr, hst, hKn, hus, hss, had, hhi, hlo⟩ := id hX
  refine Con.intro (Ls := #[.val (.ref ar)]) pn17 hEL hO (fun m => rfl) fun C vm T hl X hs => ?_
  have X : On C ({ frames := 0, cells := 0, slots := 0, locals := 0 } : Room) "java/lang/StringUTF16" B17 1 (some .int) "length" false Z a0 own_EL n0 vm T h 0 0 := X
  refine X.aload_n i17_0 rfl rfl ?_
  refine X.arraylength i17_1 V_ar ?_
  refine X.iconst i17_2 (z := (1 : Int32)) rfl ?_
  refine X.ishr i17_3 (z := (Int32.ofNat m)) (StrChars.shr1 (by omega)) ?_
  exact X.ireturn i17_4 (t := .int) rfl (by decide) rfl (by decide) (by decide) (fun sf hsf => ⟨rfl, rfl⟩)
theorem c_pch (hX : own_Ctx l Z a0 zc fm us ss) (hO : Old Z n0 h) (ar : Addr) (ka : ClassId) (m : Nat) (bs : List Int32) (c : Int32) (V_ar : Arv Z h ar ka .byte (Int32.ofNat (2 * m)) (own_wb bs) (.int (0 : Int32))) (g_ar : n0 ≤ ar) (hb : bs.length < m) (hm : m ≤ 4000) :
    Con [] false l Z own_EL n0 [ar] (⟨"java/lang/StringUTF16", "putChar", "([BII)V"⟩ : MethodName) B18 3 none ({ frames := 0, cells := 0, slots := 0, locals := 0 } : Room) #[(.ref ar), (.int (Int32.ofNat bs.length)), (.int c)] h (fun v h' sf => v = none ∧ Keep h h' [ar] ∧ Arv Z h' ar ka .byte (Int32.ofNat (2 * m)) (own_wb (bs ++ [c])) (.int (0 : Int32)) ∧ sf ar) := by
  obtain ⟨hw, hEL, hcs, hcz, hfm, hfr, hst, hKn, hus, hss, had, hhi, hlo⟩ := id hX
  refine Con.intro (Ls := #[.val (.ref ar), .val (.int (Int32.ofNat bs.length)), .val (.int c)]) pn18 hEL hO (fun m => rfl) fun C vm T hl X hs => ?_
  have X : On C ({ frames := 0, cells := 0, slots := 0, locals := 0 } : Room) "java/lang/StringUTF16" B18 3 none "putChar" false Z a0 own_EL n0 vm T h 0 0 := X
  have sf_ar := hs ar (List.mem_of_getElem? (i := 0) rfl)
  refine X.getstatic i18_0 (hw _ wd_266) Via.refl (had.ext X.ext0) fun T1 X1 => ?_
  refine X1.ifY i18_3 j3_25 (by decide) ?_
  refine X1.iload_n i18_28 rfl ?_
  refine X1.iconst i18_29 (z := (1 : Int32)) rfl ?_
  refine X1.ishl i18_30 (z := (Int32.ofNat (2 * bs.length))) (own_shl1 (by omega)) ?_
  refine X1.istore_n i18_31 (Ls' := #[.val (.ref ar), .val (.int (Int32.ofNat (2 * bs.length))), .val (.int c)]) rfl ?_
  refine X1.aload_n i18_32 rfl rfl ?_
  refine X1.iload_n i18_33 rfl ?_
  refine X1.iinc i18_34 rfl (y := (Int32.ofNat (2 * bs.length + 1))) (own_inc _) (Ls' := #[.val (.ref ar), .val (.int (Int32.ofNat (2 * bs.length + 1))), .val (.int c)]) rfl ?_
  refine X1.iload_n i18_37 rfl ?_
  refine X1.getstatic i18_38 (hw _ wd_267) Via.refl (hhi.ext X1.ext0) fun T2 X2 => ?_
  refine X2.ishr i18_41 (z := c) (StrChars.shr0 c) ?_
  refine X2.i2b i18_42 (z := (c.toInt8.toInt32)) rfl ?_
  have B3 := V_ar.pad (pad_rep (own_wb bs) (.int (0 : Int32)) 1)
  refine X2.bastore i18_43 B3 (own_in8 (by omega) (by omega)) (i := (2 * bs.length)) (own_tn8 (by omega)) (by rw [List.length_append, ← (show 2 * bs.length = (own_wb bs).length from (own_wbl bs).symm)]; simp) (y := (c.toInt8.toInt32)) (own_narB _) g_ar sf_ar fun T3 h3 X3 W3 V3 => ?_
  have V3 : Arv Z h3 ar ka .byte (Int32.ofNat (2 * m)) ((own_wb bs) ++ [Value.int (c.toInt8.toInt32)]) (.int (0 : Int32)) := by rw [← own_snocV (own_wb bs) (.int (0 : Int32)) (.int (c.toInt8.toInt32)) (show 2 * bs.length = (own_wb bs).length from (own_wbl bs).symm)]; exact V3
  refine X3.aload_n i18_44 rfl rfl ?_
  refine X3.iload_n i18_45 rfl ?_
  refine X3.iload_n i18_46 rfl ?_
  refine X3.getstatic i18_47 (hw _ wd_268) Via.refl (hlo.ext X3.ext0) fun T4 X4 => ?_
  refine X4.ishr i18_50 (z := (c >>> ((8 : Int32) &&& 31))) rfl ?_
  refine X4.i2b i18_51 (z := ((c >>> ((8 : Int32) &&& 31)).toInt8.toInt32)) rfl ?_
  have B5 := V3.pad (pad_rep ((own_wb bs) ++ [Value.int (c.toInt8.toInt32)]) (.int (0 : Int32)) 1)
  have Sf6 := ((CHr.wr W3 sf_ar X2.chv)).safe (V_ar).lt sf_ar
  refine X4.bastore i18_52 B5 (own_in8 (by omega) (by omega)) (i := (2 * bs.length + 1)) (own_tn8 (by omega)) (by rw [List.length_append, ← (show 2 * bs.length + 1 = ((own_wb bs) ++ [Value.int (c.toInt8.toInt32)]).length by rw [List.length_append, own_wbl]; rfl)]; simp) (y := ((c >>> ((8 : Int32) &&& 31)).toInt8.toInt32)) (own_narB _) g_ar Sf6 fun T5 h5 X5 W5 V5 => ?_
  have V5 : Arv Z h5 ar ka .byte (Int32.ofNat (2 * m)) (((own_wb bs) ++ [Value.int (c.toInt8.toInt32)]) ++ [Value.int ((c >>> ((8 : Int32) &&& 31)).toInt8.toInt32)]) (.int (0 : Int32)) := by rw [← own_snocV ((own_wb bs) ++ [Value.int (c.toInt8.toInt32)]) (.int (0 : Int32)) (.int ((c >>> ((8 : Int32) &&& 31)).toInt8.toInt32)) (show 2 * bs.length + 1 = ((own_wb bs) ++ [Value.int (c.toInt8.toInt32)]).length by rw [List.length_append, own_wbl]; rfl)]; exact V5
  have V7 : Arv Z h5 ar ka .byte (Int32.ofNat (2 * m)) (own_wb (bs ++ [c])) (.int (0 : Int32)) := by rw [own_wba]; have q := V5; rw [List.append_assoc] at q; exact q
  have Sf8 := ((CHr.wr W5 Sf6 X4.chv)).safe (V3).lt Sf6
  exact X5.ret i18_53 rfl (by decide) (by decide) (fun sf hsf => ⟨rfl, (((Keep.refl _ [ar]).wr W3 (Or.inl (List.mem_of_getElem? (i := 0) rfl))).wr W5 (Or.inl (List.mem_of_getElem? (i := 0) rfl))), V7, hsf _ Sf8⟩)
theorem c_gch (hX : own_Ctx l Z a0 zc fm us ss) (hO : Old Z n0 h) (ar : Addr) (ka : ClassId) (cs : List Int32) (i : Nat) (c : Int32) (V_ar : Arv Z h ar ka .byte (Int32.ofNat (2 * cs.length)) (own_wb cs) (.int (0 : Int32))) (hi : i < cs.length) (hle : cs.length ≤ 4000) (hc : cs.getD i 0 = c) (hch : own_chr c) :
    Con [] false l Z own_EL n0 [] (⟨"java/lang/StringUTF16", "getChar", "([BI)C"⟩ : MethodName) B19 2 (some .char) ({ frames := 0, cells := 0, slots := 0, locals := 0 } : Room) #[(.ref ar), (.int (Int32.ofNat i))] h (fun v h' sf => v = some (.int c) ∧ h = h') := by
  obtain ⟨hw, hEL, hcs, hcz, hfm, hfr, hst, hKn, hus, hss, had, hhi, hlo⟩ := id hX
  refine Con.intro (Ls := #[.val (.ref ar), .val (.int (Int32.ofNat i))]) pn19 hEL hO (fun m => rfl) fun C vm T hl X hs => ?_
  have X : On C ({ frames := 0, cells := 0, slots := 0, locals := 0 } : Room) "java/lang/StringUTF16" B19 2 (some .char) "getChar" false Z a0 own_EL n0 vm T h 0 0 := X
  refine X.getstatic i19_0 (hw _ wd_266) Via.refl (had.ext X.ext0) fun T1 X1 => ?_
  refine X1.ifY i19_3 j3_25 (by decide) ?_
  refine X1.iload_n i19_28 rfl ?_
  refine X1.iconst i19_29 (z := (1 : Int32)) rfl ?_
  refine X1.ishl i19_30 (z := (Int32.ofNat (2 * i))) (own_shl1 (by omega)) ?_
  refine X1.istore_n i19_31 (Ls' := #[.val (.ref ar), .val (.int (Int32.ofNat (2 * i)))]) rfl ?_
  refine X1.aload_n i19_32 rfl rfl ?_
  refine X1.iload_n i19_33 rfl ?_
  refine X1.iinc i19_34 rfl (y := (Int32.ofNat (2 * i + 1))) (own_inc _) (Ls' := #[.val (.ref ar), .val (.int (Int32.ofNat (2 * i + 1)))]) rfl ?_
  refine X1.baload i19_37 V_ar (own_in8 (by omega) (by omega)) (v := .int (StrChars.lo8 c)) (by rw [own_wlo cs _ hi hle, hc]) ?_
  refine X1.sipush i19_38 (z := (255 : Int32)) rfl ?_
  refine X1.iand i19_41 (z := ((StrChars.lo8 c) &&& (255 : Int32))) rfl ?_
  refine X1.getstatic i19_42 (hw _ wd_267) Via.refl (hhi.ext X1.ext0) fun T2 X2 => ?_
  refine X2.ishl i19_45 (z := (((StrChars.lo8 c) &&& (255 : Int32)) <<< ((0 : Int32) &&& 31))) rfl ?_
  refine X2.aload_n i19_46 rfl rfl ?_
  refine X2.iload_n i19_47 rfl ?_
  refine X2.baload i19_48 V_ar (own_in8 (by omega) (by omega)) (v := .int (StrChars.hi8 c)) (by rw [own_whi cs _ hi hle, hc]) ?_
  refine X2.sipush i19_49 (z := (255 : Int32)) rfl ?_
  refine X2.iand i19_52 (z := ((StrChars.hi8 c) &&& (255 : Int32))) rfl ?_
  refine X2.getstatic i19_53 (hw _ wd_268) Via.refl (hlo.ext X2.ext0) fun T3 X3 => ?_
  refine X3.ishl i19_56 (z := (((StrChars.hi8 c) &&& (255 : Int32)) <<< ((8 : Int32) &&& 31))) rfl ?_
  refine X3.ior i19_57 (z := ((((StrChars.lo8 c) &&& (255 : Int32)) <<< ((0 : Int32) &&& 31)) ||| (((StrChars.hi8 c) &&& (255 : Int32)) <<< ((8 : Int32) &&& 31)))) rfl ?_
  refine X3.i2c i19_58 (z := c) (StrChars.pair_says hch.1 hch.2) ?_
  exact X3.ireturn i19_59 (t := .char) rfl (by decide) (StrChars.narrow_ch hch.1 hch.2) (by decide) (by decide) (fun sf hsf => ⟨rfl, rfl⟩)
theorem c_tb3 (hX : own_Ctx l Z a0 zc fm us ss) (hO : Old Z n0 h) (c0 : Addr) (kc : ClassId) (d0 : Value) (cs : List Int32) (V_c : Arv Z h c0 kc .char (Int32.ofNat cs.length) (cs.map Value.int) d0) (hle : cs.length ≤ 22) :
    Con [] false l Z own_EL n0 [] (⟨"java/lang/StringUTF16", "toBytes", "([CII)[B"⟩ : MethodName) B20 5 (some (.array .byte)) ({ frames := 2, cells := 1, slots := 44, locals := 24 } : Room) #[(.ref c0), (.int (0 : Int32)), (.int (Int32.ofNat cs.length))] h (fun v h' sf => ∃ (r : Addr) (kr : ClassId), v = some (.ref r) ∧ Ext h h' ∧ h.size ≤ r ∧ Arv Z h' r kr .byte (Int32.ofNat (2 * cs.length)) (own_wb cs) (.int (0 : Int32))) := by
  obtain ⟨hw, hEL, hcs, hcz, hfm, hfr, hst, hKn, hus, hss, had, hhi, hlo⟩ := id hX
  refine Con.intro (Ls := #[.val (.ref c0), .val (.int (0 : Int32)), .val (.int (Int32.ofNat cs.length)), .unset, .unset]) pn20 hEL hO (fun m => rfl) fun C vm T hl X hs => ?_
  have X : On C ({ frames := 2, cells := 1, slots := 44, locals := 24 } : Room) "java/lang/StringUTF16" B20 5 (some (.array .byte)) "toBytes" false Z a0 own_EL n0 vm T h 0 0 := X
  refine X.iload_n i20_0 rfl ?_
  refine X.callS hl (argsL := [(.int (Int32.ofNat cs.length))]) i20_1 (c_nbf hX X.old cs.length hle) (hw _ wd_256) (hw _ wd_257) (hw _ wd_245) (hw _ wd_258) (by decide) sf_nil pd11 rfl rfl rfl (W := 0) rfl (by decide) (by decide) (k' := 1) rfl (n' := 44) rfl (by decide) (by decide) fun vm1 T1 h1 v1 X1 r1 Q1 => ?_
  obtain ⟨r_1, kr_1, rfl, q1_0, q1_1, q1_2, q1_3⟩ := Q1
  have g2 := Nat.le_trans X.n0le q1_1
  show Go _ _ _ _ _ _ _ _ _ _ [(.ref r_1)]
  refine X1.astore_n i20_4 rfl (Ls' := #[.val (.ref c0), .val (.int (0 : Int32)), .val (.int (Int32.ofNat cs.length)), .val (.ref r_1), .unset]) rfl ?_
  refine X1.iconst i20_5 (z := (0 : Int32)) rfl ?_
  refine X1.istore i20_6 (Ls' := #[.val (.ref c0), .val (.int (0 : Int32)), .val (.int (Int32.ofNat cs.length)), .val (.ref r_1), .val (.int (0 : Int32))]) rfl ?_
  have LP : ∀ (suf pre : List Int32) (vmL : Vm) (TL : State) (hL : Heap), cs = pre ++ suf → On C ({ frames := 2, cells := 1, slots := 44, locals := 24 } : Room) "java/lang/StringUTF16" B20 5 (some (.array .byte)) "toBytes" false Z a0 own_EL n0 vmL TL hL 1 44 → Keep h1 hL [r_1] → CHr Z own_EL vm1 h1 vmL hL → Arv Z hL r_1 kr_1 .byte (Int32.ofNat (2 * cs.length)) (own_wb pre) (.int (0 : Int32)) → Go C ({ frames := 2, cells := 1, slots := 44, locals := 24 } : Room) false Z own_EL n0 (fun v h' sf => ∃ (r : Addr) (kr : ClassId), v = some (.ref r) ∧ Ext h h' ∧ h.size ≤ r ∧ Arv Z h' r kr .byte (Int32.ofNat (2 * cs.length)) (own_wb cs) (.int (0 : Int32))) TL 8 #[.val (.ref c0), .val (.int (Int32.ofNat pre.length)), .val (.int (Int32.ofNat cs.length)), .val (.ref r_1), .val (.int (Int32.ofNat pre.length))] [] := by
    intro suf
    induction suf with
    | nil =>
      intro pre vmL TL hL hh0 XL KL rL VL
      rw [List.append_nil] at hh0
      subst hh0
      refine XL.iload i20_8 rfl ?_
      refine XL.iload_n i20_10 rfl ?_
      refine XL.icY i20_11 j11_21 (XT.ii_ge_t (own_nl8 (Nat.le_refl _) (by omega))) ?_
      refine XL.aload_n i20_32 rfl rfl ?_
      exact XL.areturn i20_33 rfl rfl rfl (by decide) (by decide) (fun sf hsf => ⟨r_1, kr_1, rfl, (ext_keep q1_0 KL (allS q1_1 all0)), q1_1, VL⟩)
    | cons c suf ih =>
      intro pre vmL TL hL hh0 XL KL rL VL
      have hlt := own_midl hh0
      refine XL.iload i20_8 rfl ?_
      refine XL.iload_n i20_10 rfl ?_
      refine XL.icN i20_11 (XT.ii_ge_f (own_lt8 hlt (by omega))) ?_
      refine XL.aload_n i20_14 rfl rfl ?_
      refine XL.iload i20_15 rfl ?_
      refine XL.aload_n i20_17 rfl rfl ?_
      refine XL.iload_n i20_18 rfl ?_
      have V3 := ((V_c.ext q1_0).keep KL (ninS (Nat.ne_of_lt (Nat.lt_of_lt_of_le (V_c).lt q1_1)) nin0))
      refine XL.caload i20_19 V3 (own_in8 hlt (by omega)) (own_mid hh0 _ (by omega)) ?_
      have Sf5 := (rL).safe (q1_2).lt q1_3
      refine XL.callS hl (argsL := [(.ref r_1), (.int (Int32.ofNat pre.length)), (.int c)]) i20_20 (c_pch hX XL.old r_1 kr_1 cs.length pre c VL g2 hlt (by omega)) (hw _ wd_263) (hw _ wd_264) (hw _ wd_245) (hw _ wd_265) (by decide) (sf_cons ⟨Sf5, (VL).lt⟩ sf_nil) pd12 rfl rfl rfl (W := 0) rfl (by decide) (by decide) (k' := 1) rfl (n' := 44) rfl (by decide) (by decide) fun vm4 T4 h4 v4 X4 r4 Q4 => ?_
      obtain ⟨rfl, q4_0, q4_1, q4_2⟩ := Q4
      show Go _ _ _ _ _ _ _ _ _ _ []
      refine X4.iinc i20_23 rfl (y := (Int32.ofNat (pre ++ [c]).length)) (own_snl rfl) (Ls' := #[.val (.ref c0), .val (.int (Int32.ofNat (pre ++ [c]).length)), .val (.int (Int32.ofNat cs.length)), .val (.ref r_1), .val (.int (Int32.ofNat pre.length))]) rfl ?_
      refine X4.iinc i20_26 rfl (y := (Int32.ofNat (pre ++ [c]).length)) (own_snl rfl) (Ls' := #[.val (.ref c0), .val (.int (Int32.ofNat (pre ++ [c]).length)), .val (.int (Int32.ofNat cs.length)), .val (.ref r_1), .val (.int (Int32.ofNat (pre ++ [c]).length))]) rfl ?_
      refine X4.goto i20_29 j29_m21 ?_
      exact ih (pre ++ [c]) vm4 T4 h4 (own_step hh0) X4 (((Keep.refl _ [r_1]).trans KL (allS (Or.inl (List.mem_of_getElem? (i := 0) rfl)) all0)).trans q4_0 (allS (Or.inl (List.mem_of_getElem? (i := 0) rfl)) all0)) ((rL).trans r4) q4_1
  exact LP cs [] vm1 T1 h1 rfl X1 (Keep.refl _ _) (CHr.refl X1.chv) q1_2
theorem c_tbc (hX : own_Ctx l Z a0 zc fm us ss) (hO : Old Z n0 h) (c : Int32)  :
    Con [] false l Z own_EL n0 [] (⟨"java/lang/StringUTF16", "toBytes", "(C)[B"⟩ : MethodName) B21 2 (some (.array .byte)) ({ frames := 1, cells := 1, slots := 2, locals := 14 } : Room) #[(.int c)] h (fun v h' sf => ∃ (r : Addr) (kr : ClassId), v = some (.ref r) ∧ Ext h h' ∧ h.size ≤ r ∧ Arv Z h' r kr .byte (Int32.ofNat (2 * 1)) (own_wb [c]) (.int (0 : Int32))) := by
  obtain ⟨hw, hEL, hcs, hcz, hfm, hfr, hst, hKn, hus, hss, had, hhi, hlo⟩ := id hX
  refine Con.intro (Ls := #[.val (.int c), .unset]) pn21 hEL hO (fun m => rfl) fun C vm T hl X hs => ?_
  have X : On C ({ frames := 1, cells := 1, slots := 2, locals := 14 } : Room) "java/lang/StringUTF16" B21 2 (some (.array .byte)) "toBytes" false Z a0 own_EL n0 vm T h 0 0 := X
  refine X.iconst i21_0 (z := (2 : Int32)) rfl ?_
  refine X.newarray i21_1 (ty := .byte) rfl (hw _ wd_15) (by decide) (cap := 2) (by decide) (by decide) (k' := 1) rfl (n' := 2) rfl (by decide) (by decide) fun T1 h1 a1 c1 X1 E1 z1 g1 V1 Sf1 => ?_
  have V1 : Arv Z h1 a1 c1 .byte (2 : Int32) [(.int (0 : Int32)), (.int (0 : Int32))] (.int (0 : Int32)) := V1.pad (pad_rep [] (.int (0 : Int32)) 2)
  have V2 : Arv Z h1 a1 c1 .byte (Int32.ofNat (2 * 1)) (own_wb ([] : List Int32)) (.int (0 : Int32)) := V1.pad (fun i => by rcases i with _ | _ | i <;> rfl)
  refine X1.astore_n i21_3 rfl (Ls' := #[.val (.int c), .val (.ref a1)]) rfl ?_
  refine X1.aload_n i21_4 rfl rfl ?_
  refine X1.iconst i21_5 (z := (0 : Int32)) rfl ?_
  refine X1.iload_n i21_6 rfl ?_
  refine X1.callS hl (argsL := [(.ref a1), (.int (0 : Int32)), (.int c)]) i21_7 (c_pch hX X1.old a1 c1 1 ([] : List Int32) c V2 g1 (by decide) (by decide)) (hw _ wd_263) (hw _ wd_264) (hw _ wd_245) (hw _ wd_265) (by decide) (sf_cons ⟨Sf1, (V1).lt⟩ sf_nil) pd12 rfl rfl rfl (W := 0) rfl (by decide) (by decide) (k' := 1) rfl (n' := 2) rfl (by decide) (by decide) fun vm3 T3 h3 v3 X3 r3 Q3 => ?_
  obtain ⟨rfl, q3_0, q3_1, q3_2⟩ := Q3
  show Go _ _ _ _ _ _ _ _ _ _ []
  refine X3.aload_n i21_10 rfl rfl ?_
  exact X3.areturn i21_11 rfl rfl rfl (by decide) (by decide) (fun sf hsf => ⟨a1, c1, rfl, (ext_keep E1 q3_0 (allS (Nat.le_of_eq z1) all0)), (Nat.le_of_eq z1), q3_1⟩)
theorem c_cm5 (hX : own_Ctx l Z a0 zc fm us ss) (hO : Old Z n0 h) (c0 : Addr) (kc : ClassId) (d0 : Value) (cs : List Int32) (d : Addr) (kd : ClassId) (i : Nat) (V_c : Arv Z h c0 kc .char (Int32.ofNat cs.length) (cs.map Value.int) d0) (V_d : Arv Z h d kd .byte (Int32.ofNat cs.length) [(.int (0 : Int32)), (.int (0 : Int32)), (.int (0 : Int32))] (.int (0 : Int32))) (g_d : n0 ≤ d) (hle : cs.length ≤ 22) (hi : own_first cs i) (ned : c0 ≠ d) :
    Con [] false l Z own_EL n0 [d] (⟨"java/lang/StringUTF16", "compress", "([CI[BII)I"⟩ : MethodName) B22 7 (some .int) ({ frames := 0, cells := 0, slots := 0, locals := 0 } : Room) #[(.ref c0), (.int (0 : Int32)), (.ref d), (.int (0 : Int32)), (.int (Int32.ofNat cs.length))] h (fun v h' sf => v = some (.int (Int32.ofNat i)) ∧ Keep h h' [d]) := by
  obtain ⟨hw, hEL, hcs, hcz, hfm, hfr, hst, hKn, hus, hss, had, hhi, hlo⟩ := id hX
  refine Con.intro (Ls := #[.val (.ref c0), .val (.int (0 : Int32)), .val (.ref d), .val (.int (0 : Int32)), .val (.int (Int32.ofNat cs.length)), .unset, .unset]) pn22 hEL hO (fun m => rfl) fun C vm T hl X hs => ?_
  have X : On C ({ frames := 0, cells := 0, slots := 0, locals := 0 } : Room) "java/lang/StringUTF16" B22 7 (some .int) "compress" false Z a0 own_EL n0 vm T h 0 0 := X
  have sf_d := hs d (List.mem_of_getElem? (i := 0) rfl)
  rcases hi with ⟨rfl, w0, l0⟩ | ⟨rfl, na0, w1, l1⟩ | ⟨rfl, na0, na1, w2, l2⟩
  · skip
    refine X.iconst i22_0 (z := (0 : Int32)) rfl ?_
    refine X.istore i22_1 (Ls' := #[.val (.ref c0), .val (.int (0 : Int32)), .val (.ref d), .val (.int (0 : Int32)), .val (.int (Int32.ofNat cs.length)), .val (.int (0 : Int32)), .unset]) rfl ?_
    refine X.iload i22_3 rfl ?_
    refine X.iload i22_5 rfl ?_
    refine X.icN i22_7 (XT.ii_ge_f (own_lt8 (i := 0) l0 (by omega))) ?_
    refine X.aload_n i22_10 rfl rfl ?_
    refine X.iload_n i22_11 rfl ?_
    refine X.caload i22_12 V_c (own_in8 (i := 0) l0 (by omega)) (own_getm8 (i := 0) _ l0 (by omega)) ?_
    refine X.istore i22_13 (Ls' := #[.val (.ref c0), .val (.int (0 : Int32)), .val (.ref d), .val (.int (0 : Int32)), .val (.int (Int32.ofNat cs.length)), .val (.int (0 : Int32)), .val (.int (cs.getD 0 0))]) rfl ?_
    refine X.iload i22_15 rfl ?_
    refine X.sipush i22_17 (z := (255 : Int32)) rfl ?_
    refine X.icN i22_20 (XT.ii_le_f w0) ?_
    refine X.iload i22_23 rfl ?_
    exact X.ireturn i22_25 (t := .int) rfl (by decide) rfl (by decide) (by decide) (fun sf hsf => ⟨rfl, (Keep.refl _ [d])⟩)
  · skip
    refine X.iconst i22_0 (z := (0 : Int32)) rfl ?_
    refine X.istore i22_1 (Ls' := #[.val (.ref c0), .val (.int (0 : Int32)), .val (.ref d), .val (.int (0 : Int32)), .val (.int (Int32.ofNat cs.length)), .val (.int (0 : Int32)), .unset]) rfl ?_
    have l0 : 0 < cs.length := by omega
    refine X.iload i22_3 rfl ?_
    refine X.iload i22_5 rfl ?_
    refine X.icN i22_7 (XT.ii_ge_f (own_lt8 (i := 0) l0 (by omega))) ?_
    refine X.aload_n i22_10 rfl rfl ?_
    refine X.iload_n i22_11 rfl ?_
    refine X.caload i22_12 V_c (own_in8 (i := 0) l0 (by omega)) (own_getm8 (i := 0) _ l0 (by omega)) ?_
    refine X.istore i22_13 (Ls' := #[.val (.ref c0), .val (.int (0 : Int32)), .val (.ref d), .val (.int (0 : Int32)), .val (.int (Int32.ofNat cs.length)), .val (.int (0 : Int32)), .val (.int (cs.getD 0 0))]) rfl ?_
    refine X.iload i22_15 rfl ?_
    refine X.sipush i22_17 (z := (255 : Int32)) rfl ?_
    refine X.icY i22_20 j20_6 (XT.ii_le_t na0) ?_
    refine X.aload_n i22_26 rfl rfl ?_
    refine X.iload_n i22_27 rfl ?_
    refine X.iload i22_28 rfl ?_
    refine X.i2b i22_30 (z := ((cs.getD 0 0).toInt8.toInt32)) rfl ?_
    refine X.bastore i22_31 V_d (own_in8 (i := 0) l0 (by omega)) (i := 0) rfl (Nat.le_of_ble_eq_true rfl) (y := ((cs.getD 0 0).toInt8.toInt32)) (own_narB _) g_d sf_d fun T1 h1 X1 W1 V1 => ?_
    have V1 : Arv Z h1 d kd .byte (Int32.ofNat cs.length) [(.int ((cs.getD 0 0).toInt8.toInt32)), (.int (0 : Int32)), (.int (0 : Int32))] (.int (0 : Int32)) := V1
    refine X1.iinc i22_32 rfl (y := (1 : Int32)) rfl (Ls' := #[.val (.ref c0), .val (.int (1 : Int32)), .val (.ref d), .val (.int (0 : Int32)), .val (.int (Int32.ofNat cs.length)), .val (.int (0 : Int32)), .val (.int (cs.getD 0 0))]) rfl ?_
    refine X1.iinc i22_35 rfl (y := (1 : Int32)) rfl (Ls' := #[.val (.ref c0), .val (.int (1 : Int32)), .val (.ref d), .val (.int (1 : Int32)), .val (.int (Int32.ofNat cs.length)), .val (.int (0 : Int32)), .val (.int (cs.getD 0 0))]) rfl ?_
    refine X1.iinc i22_38 rfl (y := (1 : Int32)) rfl (Ls' := #[.val (.ref c0), .val (.int (1 : Int32)), .val (.ref d), .val (.int (1 : Int32)), .val (.int (Int32.ofNat cs.length)), .val (.int (1 : Int32)), .val (.int (cs.getD 0 0))]) rfl ?_
    refine X1.goto i22_41 j41_m38 ?_
    refine X1.iload i22_3 rfl ?_
    refine X1.iload i22_5 rfl ?_
    refine X1.icN i22_7 (XT.ii_ge_f (own_lt8 (i := 1) l1 (by omega))) ?_
    refine X1.aload_n i22_10 rfl rfl ?_
    refine X1.iload_n i22_11 rfl ?_
    have V2 := (V_c.other W1 ned)
    refine X1.caload i22_12 V2 (own_in8 (i := 1) l1 (by omega)) (own_getm8 (i := 1) _ l1 (by omega)) ?_
    refine X1.istore i22_13 (Ls' := #[.val (.ref c0), .val (.int (1 : Int32)), .val (.ref d), .val (.int (1 : Int32)), .val (.int (Int32.ofNat cs.length)), .val (.int (1 : Int32)), .val (.int (cs.getD 1 0))]) rfl ?_
    refine X1.iload i22_15 rfl ?_
    refine X1.sipush i22_17 (z := (255 : Int32)) rfl ?_
    refine X1.icN i22_20 (XT.ii_le_f w1) ?_
    refine X1.iload i22_23 rfl ?_
    exact X1.ireturn i22_25 (t := .int) rfl (by decide) rfl (by decide) (by decide) (fun sf hsf => ⟨rfl, ((Keep.refl _ [d]).wr W1 (Or.inl (List.mem_of_getElem? (i := 0) rfl)))⟩)
  · skip
    refine X.iconst i22_0 (z := (0 : Int32)) rfl ?_
    refine X.istore i22_1 (Ls' := #[.val (.ref c0), .val (.int (0 : Int32)), .val (.ref d), .val (.int (0 : Int32)), .val (.int (Int32.ofNat cs.length)), .val (.int (0 : Int32)), .unset]) rfl ?_
    have l0 : 0 < cs.length := by omega
    have l1 : 1 < cs.length := by omega
    refine X.iload i22_3 rfl ?_
    refine X.iload i22_5 rfl ?_
    refine X.icN i22_7 (XT.ii_ge_f (own_lt8 (i := 0) l0 (by omega))) ?_
    refine X.aload_n i22_10 rfl rfl ?_
    refine X.iload_n i22_11 rfl ?_
    refine X.caload i22_12 V_c (own_in8 (i := 0) l0 (by omega)) (own_getm8 (i := 0) _ l0 (by omega)) ?_
    refine X.istore i22_13 (Ls' := #[.val (.ref c0), .val (.int (0 : Int32)), .val (.ref d), .val (.int (0 : Int32)), .val (.int (Int32.ofNat cs.length)), .val (.int (0 : Int32)), .val (.int (cs.getD 0 0))]) rfl ?_
    refine X.iload i22_15 rfl ?_
    refine X.sipush i22_17 (z := (255 : Int32)) rfl ?_
    refine X.icY i22_20 j20_6 (XT.ii_le_t na0) ?_
    refine X.aload_n i22_26 rfl rfl ?_
    refine X.iload_n i22_27 rfl ?_
    refine X.iload i22_28 rfl ?_
    refine X.i2b i22_30 (z := ((cs.getD 0 0).toInt8.toInt32)) rfl ?_
    refine X.bastore i22_31 V_d (own_in8 (i := 0) l0 (by omega)) (i := 0) rfl (Nat.le_of_ble_eq_true rfl) (y := ((cs.getD 0 0).toInt8.toInt32)) (own_narB _) g_d sf_d fun T3 h3 X3 W3 V3 => ?_
    have V3 : Arv Z h3 d kd .byte (Int32.ofNat cs.length) [(.int ((cs.getD 0 0).toInt8.toInt32)), (.int (0 : Int32)), (.int (0 : Int32))] (.int (0 : Int32)) := V3
    refine X3.iinc i22_32 rfl (y := (1 : Int32)) rfl (Ls' := #[.val (.ref c0), .val (.int (1 : Int32)), .val (.ref d), .val (.int (0 : Int32)), .val (.int (Int32.ofNat cs.length)), .val (.int (0 : Int32)), .val (.int (cs.getD 0 0))]) rfl ?_
    refine X3.iinc i22_35 rfl (y := (1 : Int32)) rfl (Ls' := #[.val (.ref c0), .val (.int (1 : Int32)), .val (.ref d), .val (.int (1 : Int32)), .val (.int (Int32.ofNat cs.length)), .val (.int (0 : Int32)), .val (.int (cs.getD 0 0))]) rfl ?_
    refine X3.iinc i22_38 rfl (y := (1 : Int32)) rfl (Ls' := #[.val (.ref c0), .val (.int (1 : Int32)), .val (.ref d), .val (.int (1 : Int32)), .val (.int (Int32.ofNat cs.length)), .val (.int (1 : Int32)), .val (.int (cs.getD 0 0))]) rfl ?_
    refine X3.goto i22_41 j41_m38 ?_
    refine X3.iload i22_3 rfl ?_
    refine X3.iload i22_5 rfl ?_
    refine X3.icN i22_7 (XT.ii_ge_f (own_lt8 (i := 1) l1 (by omega))) ?_
    refine X3.aload_n i22_10 rfl rfl ?_
    refine X3.iload_n i22_11 rfl ?_
    have V4 := (V_c.other W3 ned)
    refine X3.caload i22_12 V4 (own_in8 (i := 1) l1 (by omega)) (own_getm8 (i := 1) _ l1 (by omega)) ?_
    refine X3.istore i22_13 (Ls' := #[.val (.ref c0), .val (.int (1 : Int32)), .val (.ref d), .val (.int (1 : Int32)), .val (.int (Int32.ofNat cs.length)), .val (.int (1 : Int32)), .val (.int (cs.getD 1 0))]) rfl ?_
    refine X3.iload i22_15 rfl ?_
    refine X3.sipush i22_17 (z := (255 : Int32)) rfl ?_
    refine X3.icY i22_20 j20_6 (XT.ii_le_t na1) ?_
    refine X3.aload_n i22_26 rfl rfl ?_
    refine X3.iload_n i22_27 rfl ?_
    refine X3.iload i22_28 rfl ?_
    refine X3.i2b i22_30 (z := ((cs.getD 1 0).toInt8.toInt32)) rfl ?_
    have Sf6 := ((CHr.wr W3 sf_d X.chv)).safe (V_d).lt sf_d
    refine X3.bastore i22_31 V3 (own_in8 (i := 1) l1 (by omega)) (i := 1) rfl (Nat.le_of_ble_eq_true rfl) (y := ((cs.getD 1 0).toInt8.toInt32)) (own_narB _) g_d Sf6 fun T5 h5 X5 W5 V5 => ?_
    have V5 : Arv Z h5 d kd .byte (Int32.ofNat cs.length) [(.int ((cs.getD 0 0).toInt8.toInt32)), (.int ((cs.getD 1 0).toInt8.toInt32)), (.int (0 : Int32))] (.int (0 : Int32)) := V5
    refine X5.iinc i22_32 rfl (y := (2 : Int32)) rfl (Ls' := #[.val (.ref c0), .val (.int (2 : Int32)), .val (.ref d), .val (.int (1 : Int32)), .val (.int (Int32.ofNat cs.length)), .val (.int (1 : Int32)), .val (.int (cs.getD 1 0))]) rfl ?_
    refine X5.iinc i22_35 rfl (y := (2 : Int32)) rfl (Ls' := #[.val (.ref c0), .val (.int (2 : Int32)), .val (.ref d), .val (.int (2 : Int32)), .val (.int (Int32.ofNat cs.length)), .val (.int (1 : Int32)), .val (.int (cs.getD 1 0))]) rfl ?_
    refine X5.iinc i22_38 rfl (y := (2 : Int32)) rfl (Ls' := #[.val (.ref c0), .val (.int (2 : Int32)), .val (.ref d), .val (.int (2 : Int32)), .val (.int (Int32.ofNat cs.length)), .val (.int (2 : Int32)), .val (.int (cs.getD 1 0))]) rfl ?_
    refine X5.goto i22_41 j41_m38 ?_
    refine X5.iload i22_3 rfl ?_
    refine X5.iload i22_5 rfl ?_
    refine X5.icN i22_7 (XT.ii_ge_f (own_lt8 (i := 2) l2 (by omega))) ?_
    refine X5.aload_n i22_10 rfl rfl ?_
    refine X5.iload_n i22_11 rfl ?_
    have V7 := (V4.other W5 ned)
    refine X5.caload i22_12 V7 (own_in8 (i := 2) l2 (by omega)) (own_getm8 (i := 2) _ l2 (by omega)) ?_
    refine X5.istore i22_13 (Ls' := #[.val (.ref c0), .val (.int (2 : Int32)), .val (.ref d), .val (.int (2 : Int32)), .val (.int (Int32.ofNat cs.length)), .val (.int (2 : Int32)), .val (.int (cs.getD 2 0))]) rfl ?_
    refine X5.iload i22_15 rfl ?_
    refine X5.sipush i22_17 (z := (255 : Int32)) rfl ?_
    refine X5.icN i22_20 (XT.ii_le_f w2) ?_
    refine X5.iload i22_23 rfl ?_
    exact X5.ireturn i22_25 (t := .int) rfl (by decide) rfl (by decide) (by decide) (fun sf hsf => ⟨rfl, (((Keep.refl _ [d]).wr W3 (Or.inl (List.mem_of_getElem? (i := 0) rfl))).wr W5 (Or.inl (List.mem_of_getElem? (i := 0) rfl)))⟩)
theorem c_cm3 (hX : own_Ctx l Z a0 zc fm us ss) (hO : Old Z n0 h) (c0 : Addr) (kc : ClassId) (d0 : Value) (cs : List Int32) (i : Nat) (V_c : Arv Z h c0 kc .char (Int32.ofNat cs.length) (cs.map Value.int) d0) (hle : cs.length ≤ 22) (hi : own_first cs i) (hcr : ∀ c ∈ cs, own_chr c) :
    Con [] false l Z own_EL n0 [] (⟨"java/lang/StringUTF16", "compress", "([CII)[B"⟩ : MethodName) B23 6 (some (.array .byte)) ({ frames := 3, cells := 2, slots := 66, locals := 40 } : Room) #[(.ref c0), (.int (0 : Int32)), (.int (Int32.ofNat cs.length))] h (fun v h' sf => ∃ (r : Addr) (kr : ClassId), v = some (.ref r) ∧ Ext h h' ∧ h.size ≤ r ∧ Arv Z h' r kr .byte (Int32.ofNat (2 * cs.length)) (own_wb cs) (.int (0 : Int32))) := by
  obtain ⟨hw, hEL, hcs, hcz, hfm, hfr, hst, hKn, hus, hss, had, hhi, hlo⟩ := id hX
  refine Con.intro (Ls := #[.val (.ref c0), .val (.int (0 : Int32)), .val (.int (Int32.ofNat cs.length)), .unset, .unset, .unset]) pn23 hEL hO (fun m => rfl) fun C vm T hl X hs => ?_
  have X : On C ({ frames := 3, cells := 2, slots := 66, locals := 40 } : Room) "java/lang/StringUTF16" B23 6 (some (.array .byte)) "compress" false Z a0 own_EL n0 vm T h 0 0 := X
  have hsx := own_firstS hi
  refine X.iload_n i23_0 rfl ?_
  refine X.newarray i23_1 (ty := .byte) rfl (hw _ wd_15) (own_nn8 (by omega)) (cap := 22) (by rw [own_tn8 (by omega)]; omega) (by decide) (k' := 1) rfl (n' := 22) rfl (by decide) (by decide) fun T1 h1 a1 c1 X1 E1 z1 g1 V1 Sf1 => ?_
  have V1 : Arv Z h1 a1 c1 .byte (Int32.ofNat cs.length) [(.int (0 : Int32)), (.int (0 : Int32)), (.int (0 : Int32))] (.int (0 : Int32)) := V1.pad (pad_rep [] (.int (0 : Int32)) 3)
  refine X1.astore_n i23_3 rfl (Ls' := #[.val (.ref c0), .val (.int (0 : Int32)), .val (.int (Int32.ofNat cs.length)), .val (.ref a1), .unset, .unset]) rfl ?_
  refine X1.aload_n i23_4 rfl rfl ?_
  refine X1.iload_n i23_5 rfl ?_
  refine X1.aload_n i23_6 rfl rfl ?_
  refine X1.iconst i23_7 (z := (0 : Int32)) rfl ?_
  refine X1.iload_n i23_8 rfl ?_
  have V2 := (V_c.ext E1)
  refine X1.callS hl (argsL := [(.ref c0), (.int (0 : Int32)), (.ref a1), (.int (0 : Int32)), (.int (Int32.ofNat cs.length))]) i23_9 (c_cm5 hX X1.old c0 kc d0 cs a1 c1 i V2 V1 g1 hle hi (Nat.ne_of_lt (Nat.lt_of_lt_of_le (V_c).lt (Nat.le_of_eq z1)))) (hw _ wd_247) (hw _ wd_248) (hw _ wd_245) (hw _ wd_249) (by decide) (sf_cons ⟨Sf1, (V1).lt⟩ sf_nil) pd13 rfl rfl rfl (W := 0) rfl (by decide) (by decide) (k' := 1) rfl (n' := 22) rfl (by decide) (by decide) fun vm3 T3 h3 v3 X3 r3 Q3 => ?_
  obtain ⟨rfl, q3_0⟩ := Q3
  show Go _ _ _ _ _ _ _ _ _ _ [(.int (Int32.ofNat i))]
  refine X3.istore i23_12 (Ls' := #[.val (.ref c0), .val (.int (0 : Int32)), .val (.int (Int32.ofNat cs.length)), .val (.ref a1), .val (.int (Int32.ofNat i)), .unset]) rfl ?_
  refine X3.iload i23_14 rfl ?_
  refine X3.iload_n i23_16 rfl ?_
  refine X3.icN i23_17 (XT.ii_eq_f (own_ne8 hsx.1 (by omega))) ?_
  refine X3.aload_n i23_20 rfl rfl ?_
  refine X3.iload_n i23_21 rfl ?_
  refine X3.iload_n i23_22 rfl ?_
  have V4 := (V2.keep q3_0 (ninS (Nat.ne_of_lt (Nat.lt_of_lt_of_le (V_c).lt (Nat.le_of_eq z1))) nin0))
  refine X3.callS hl (argsL := [(.ref c0), (.int (0 : Int32)), (.int (Int32.ofNat cs.length))]) i23_23 (c_tb3 hX X3.old c0 kc d0 cs V4 hle) (hw _ wd_253) (hw _ wd_254) (hw _ wd_245) (hw _ wd_255) (by decide) sf_nil pd14 rfl rfl rfl (W := 0) rfl (by decide) (by decide) (k' := 2) rfl (n' := 66) rfl (by decide) (by decide) fun vm5 T5 h5 v5 X5 r5 Q5 => ?_
  obtain ⟨r_5, kr_5, rfl, q5_0, q5_1, q5_2⟩ := Q5
  have g6 := Nat.le_trans X3.n0le q5_1
  show Go _ _ _ _ _ _ _ _ _ _ [(.ref r_5)]
  refine X5.astore i23_26 rfl (Ls' := #[.val (.ref c0), .val (.int (0 : Int32)), .val (.int (Int32.ofNat cs.length)), .val (.ref a1), .val (.int (Int32.ofNat i)), .val (.ref r_5)]) rfl ?_
  refine X5.aload i23_28 rfl rfl ?_
  refine X5.iload i23_30 rfl ?_
  refine X5.callS hl (argsL := [(.ref r_5), (.int (Int32.ofNat i))]) i23_32 (c_gch hX X5.old r_5 kr_5 cs i (cs.getD i 0) q5_2 hsx.1 (by omega) rfl (own_rngi hcr hsx.1)) (hw _ wd_269) (hw _ wd_270) (hw _ wd_245) (hw _ wd_271) (by decide) sf_nil pd15 rfl rfl rfl (W := 0) rfl (by decide) (by decide) (k' := 2) rfl (n' := 66) rfl (by decide) (by decide) fun vm7 T7 h7 v7 X7 r7 Q7 => ?_
  obtain ⟨rfl, rfl⟩ := Q7
  show Go _ _ _ _ _ _ _ _ _ _ [(.int (cs.getD i 0))]
  refine X7.sipush i23_35 (z := (255 : Int32)) rfl ?_
  refine X7.icY i23_38 j38_16 (XT.ii_gt_t hsx.2) ?_
  refine X7.aload i23_54 rfl rfl ?_
  exact X7.areturn i23_56 rfl rfl rfl (by decide) (by decide) (fun sf hsf => ⟨r_5, kr_5, rfl, (ext_trans (ext_keep E1 q3_0 (allS (Nat.le_of_eq z1) all0)) q5_0), (Nat.le_trans E1.1 (Nat.le_trans q3_0.1 q5_1)), q5_2⟩)
theorem c_cal (hX : own_Ctx l Z a0 zc fm us ss) (hO : Old Z n0 h) (ar : Addr) (ka : ClassId) (n : Nat) (vs : List Value) (V_ar : Arv Z h ar ka .byte (Int32.ofNat (2 * n)) vs (.int (0 : Int32))) (gq0 : 0 < n) (hn : n ≤ 22) :
    Con [] false l Z own_EL n0 [] (⟨"java/lang/StringUTF16", "coderFromArrayLen", "([BI)B"⟩ : MethodName) B24 2 (some .byte) ({ frames := 0, cells := 0, slots := 0, locals := 0 } : Room) #[(.ref ar), (.int (Int32.ofNat n))] h (fun v h' sf => v = some (.int (1 : Int32)) ∧ h = h') := by
  obtain ⟨hw, hEL, hcs, hcz, hfm, hfr, hst, hKn, hus, hss, had, hhi, hlo⟩ := id hX
  refine Con.intro (Ls := #[.val (.ref ar), .val (.int (Int32.ofNat n))]) pn24 hEL hO (fun m => rfl) fun C vm T hl X hs => ?_
  have X : On C ({ frames := 0, cells := 0, slots := 0, locals := 0 } : Room) "java/lang/StringUTF16" B24 2 (some .byte) "coderFromArrayLen" false Z a0 own_EL n0 vm T h 0 0 := X
  refine X.iload_n i24_0 rfl ?_
  refine X.aload_n i24_1 rfl rfl ?_
  refine X.arraylength i24_2 V_ar ?_
  refine X.isub i24_3 (z := ((Int32.ofNat n) - (Int32.ofNat (2 * n)))) rfl ?_
  refine X.bipush i24_4 (z := (31 : Int32)) rfl ?_
  refine X.iushr i24_6 (z := (1 : Int32)) (own_cal gq0 hn) ?_
  refine X.i2b i24_7 (z := (1 : Int32)) rfl ?_
  exact X.ireturn i24_8 (t := .byte) rfl (by decide) rfl (by decide) (by decide) (fun sf hsf => ⟨rfl, rfl⟩)
theorem c_w4 (hX : own_Ctx l Z a0 zc fm us ss) (hO : Old Z n0 h) (x : Addr) (c0 : Addr) (kc : ClassId) (d0 : Value) (cs : List Int32) (i : Nat) (E_x : Exa Z h x "java/lang/String") (g_x : n0 ≤ x) (F_xv : Fld Z h x "java/lang/String" "value" "[B" .null) (F_xc : Fld Z h x "java/lang/String" "coder" "B" (.int (0 : Int32))) (V_c : Arv Z h c0 kc .char (Int32.ofNat cs.length) (cs.map Value.int) d0) (hle : cs.length ≤ 22) (hi : own_first cs i) (hcr : ∀ c ∈ cs, own_chr c) :
    Con [] false l Z own_EL n0 [x] (⟨"java/lang/String", "<init>", "([CIILjava/lang/Void;)V"⟩ : MethodName) B9 6 none ({ frames := 4, cells := 2, slots := 66, locals := 57 } : Room) #[(.ref x), (.ref c0), (.int (0 : Int32)), (.int (Int32.ofNat cs.length)), .null] h (fun v h' sf => ∃ (t : Addr) (kt : ClassId), v = none ∧ Keep h h' [x] ∧ Exa Z h' x "java/lang/String" ∧ Fld Z h' x "java/lang/String" "value" "[B" (.ref t) ∧ Fld Z h' x "java/lang/String" "coder" "B" (.int (1 : Int32)) ∧ Arv Z h' t kt .byte (Int32.ofNat (2 * cs.length)) (own_wb cs) (.int (0 : Int32)) ∧ h.size ≤ t) := by
  obtain ⟨hw, hEL, hcs, hcz, hfm, hfr, hst, hKn, hus, hss, had, hhi, hlo⟩ := id hX
  refine Con.intro (Ls := #[.val (.ref x), .val (.ref c0), .val (.int (0 : Int32)), .val (.int (Int32.ofNat cs.length)), .val .null, .unset]) pn9 hEL hO (fun m => rfl) fun C vm T hl X hs => ?_
  have X : On C ({ frames := 4, cells := 2, slots := 66, locals := 57 } : Room) "java/lang/String" B9 6 none "<init>" false Z a0 own_EL n0 vm T h 0 0 := X
  have sf_x := hs x (List.mem_of_getElem? (i := 0) rfl)
  have hsx := own_firstS hi
  refine X.aload_n i9_0 rfl rfl ?_
  refine X.initO i9_1 (hw _ wd_11) (hw _ wd_12) (hw _ wd_13) rfl (by decide) (W := 0) rfl (by decide) fun T1 X1 => ?_
  refine X1.iload_n i9_4 rfl ?_
  refine X1.ifY i9_5 j5_22 (XT.i0_ne_t (fun z => own_ne8 (i := 0) (n := cs.length) (by omega) (by omega) z.symm)) ?_
  refine X1.getstatic i9_27 (hw _ wd_67) Via.refl (hcs.ext X1.ext0) fun T2 X2 => ?_
  refine X2.ifN i9_30 (XT.i0_eq_f hcz) ?_
  refine X2.aload_n i9_33 rfl rfl ?_
  refine X2.iload_n i9_34 rfl ?_
  refine X2.iload_n i9_35 rfl ?_
  refine X2.callS hl (argsL := [(.ref c0), (.int (0 : Int32)), (.int (Int32.ofNat cs.length))]) i9_36 (c_cm3 hX X2.old c0 kc d0 cs i V_c hle hi hcr) (hw _ wd_243) (hw _ wd_244) (hw _ wd_245) (hw _ wd_246) (by decide) sf_nil pd14 rfl rfl rfl (W := 0) rfl (by decide) (by decide) (k' := 2) rfl (n' := 66) rfl (by decide) (by decide) fun vm3 T3 h3 v3 X3 r3 Q3 => ?_
  obtain ⟨r_3, kr_3, rfl, q3_0, q3_1, q3_2⟩ := Q3
  have g4 := Nat.le_trans X.n0le q3_1
  show Go _ _ _ _ _ _ _ _ _ _ [(.ref r_3)]
  refine X3.astore i9_39 rfl (Ls' := #[.val (.ref x), .val (.ref c0), .val (.int (0 : Int32)), .val (.int (Int32.ofNat cs.length)), .val .null, .val (.ref r_3)]) rfl ?_
  refine X3.aload_n i9_41 rfl rfl ?_
  refine X3.aload i9_42 rfl rfl ?_
  refine X3.iload_n i9_44 rfl ?_
  refine X3.callS hl (argsL := [(.ref r_3), (.int (Int32.ofNat cs.length))]) i9_45 (c_cal hX X3.old r_3 kr_3 cs.length (own_wb cs) q3_2 (by omega) hle) (hw _ wd_250) (hw _ wd_251) (hw _ wd_245) (hw _ wd_252) (by decide) sf_nil pd16 rfl rfl rfl (W := 1) rfl (by decide) (by decide) (k' := 2) rfl (n' := 66) rfl (by decide) (by decide) fun vm5 T5 h5 v5 X5 r5 Q5 => ?_
  obtain ⟨rfl, rfl⟩ := Q5
  show Go _ _ _ _ _ _ _ _ _ _ [(.int (1 : Int32)), (.ref x)]
  have F6 := (F_xc.ext q3_0)
  have E7 := (E_x.ext q3_0)
  have Sf9 := ((r3).trans r5).safe (F_xc).lt sf_x
  refine X5.putfield i9_48 (hw _ wd_21) Via.refl F6 E7 (Or.inr ⟨(hw _ wd_17), rfl, rfl⟩) (hw _ wd_1) (ty := .byte) (by decide) rfl rfl g_x Sf9 fun T8 h8 X8 W8 => ?_
  refine X8.aload_n i9_51 rfl rfl ?_
  refine X8.aload i9_52 rfl rfl ?_
  have F10 := ((F_xv.ext q3_0).other W8 (Or.inr (slot_ne (Or.inr (hw _ wd_16)) (Or.inr (hw _ wd_17)) (by decide) (t := (.array .byte)) (t' := .byte) (by decide) (by decide))))
  have E11 := (E7.wr W8)
  have Sf13 := ((CHr.wr W8 Sf9 X5.chv)).safe (E7).lt Sf9
  refine X8.putfield i9_54 (hw _ wd_20) Via.refl F10 E11 (Or.inr ⟨(hw _ wd_16), rfl, rfl⟩) (hw _ wd_1) (ty := (.array .byte)) (by decide) rfl rfl g_x Sf13 fun T12 h12 X12 W12 => ?_
  have E14 := (E11.wr W12)
  have F15 := ((F6.same W8).other W12 (Or.inr (slot_ne (Or.inr (hw _ wd_17)) (Or.inr (hw _ wd_16)) (by decide) (t := .byte) (t' := (.array .byte)) (by decide) (by decide))))
  have V16 := ((q3_2.other W8 (Nat.ne_of_gt (Nat.lt_of_lt_of_le (F_xc).lt q3_1))).other W12 (Nat.ne_of_gt (Nat.lt_of_lt_of_le (F_xc).lt q3_1)))
  exact X12.ret i9_57 rfl (by decide) (by decide) (fun sf hsf => ⟨r_3, kr_3, rfl, ((((Keep.refl _ [x]).ext q3_0).wr W8 (Or.inl (List.mem_of_getElem? (i := 0) rfl))).wr W12 (Or.inl (List.mem_of_getElem? (i := 0) rfl))), E14, (F10.same W12), F15, V16, q3_1⟩)
theorem c_w1 (hX : own_Ctx l Z a0 zc fm us ss) (hO : Old Z n0 h) (x : Addr) (c0 : Addr) (kc : ClassId) (d0 : Value) (cs : List Int32) (i : Nat) (E_x : Exa Z h x "java/lang/String") (g_x : n0 ≤ x) (F_xv : Fld Z h x "java/lang/String" "value" "[B" .null) (F_xc : Fld Z h x "java/lang/String" "coder" "B" (.int (0 : Int32))) (V_c : Arv Z h c0 kc .char (Int32.ofNat cs.length) (cs.map Value.int) d0) (hle : cs.length ≤ 22) (hi : own_first cs i) (hcr : ∀ c ∈ cs, own_chr c) :
    Con [] false l Z own_EL n0 [x] (⟨"java/lang/String", "<init>", "([C)V"⟩ : MethodName) B10 2 none ({ frames := 5, cells := 2, slots := 66, locals := 74 } : Room) #[(.ref x), (.ref c0)] h (fun v h' sf => ∃ (t : Addr) (kt : ClassId), v = none ∧ Keep h h' [x] ∧ Exa Z h' x "java/lang/String" ∧ Fld Z h' x "java/lang/String" "value" "[B" (.ref t) ∧ Fld Z h' x "java/lang/String" "coder" "B" (.int (1 : Int32)) ∧ Arv Z h' t kt .byte (Int32.ofNat (2 * cs.length)) (own_wb cs) (.int (0 : Int32)) ∧ h.size ≤ t) := by
  obtain ⟨hw, hEL, hcs, hcz, hfm, hfr, hst, hKn, hus, hss, had, hhi, hlo⟩ := id hX
  refine Con.intro (Ls := #[.val (.ref x), .val (.ref c0)]) pn10 hEL hO (fun m => rfl) fun C vm T hl X hs => ?_
  have X : On C ({ frames := 5, cells := 2, slots := 66, locals := 74 } : Room) "java/lang/String" B10 2 none "<init>" false Z a0 own_EL n0 vm T h 0 0 := X
  have sf_x := hs x (List.mem_of_getElem? (i := 0) rfl)
  refine X.aload_n i10_0 rfl rfl ?_
  refine X.aload_n i10_1 rfl rfl ?_
  refine X.iconst i10_2 (z := (0 : Int32)) rfl ?_
  refine X.aload_n i10_3 rfl rfl ?_
  refine X.arraylength i10_4 V_c ?_
  refine X.aconst_null i10_5 ?_
  refine X.callI hl (argsL := [(.ref c0), (.int (0 : Int32)), (.int (Int32.ofNat cs.length)), .null]) (a := x) i10_6 (c_w4 hX X.old x c0 kc d0 cs i E_x g_x F_xv F_xc V_c hle hi hcr) (hw _ wd_7) (hw _ wd_8) (hw _ wd_2) (hw _ wd_10) rfl (by decide) (sf_cons ⟨sf_x, (E_x).lt⟩ sf_nil) pd6 rfl rfl rfl (W := 0) rfl (by decide) (by decide) (k' := 2) rfl (n' := 66) rfl (by decide) (by decide) fun vm1 T1 h1 v1 X1 r1 Q1 => ?_
  obtain ⟨t_1, kt_1, rfl, q1_0, q1_1, q1_2, q1_3, q1_4, q1_5⟩ := Q1
  have g2 := Nat.le_trans X.n0le q1_5
  show Go _ _ _ _ _ _ _ _ _ _ []
  exact X1.ret i10_9 rfl (by decide) (by decide) (fun sf hsf => ⟨t_1, kt_1, rfl, ((Keep.refl _ [x]).trans q1_0 (allS (Or.inl (List.mem_of_getElem? (i := 0) rfl)) all0)), q1_1, q1_2, q1_3, q1_4, q1_5⟩)
theorem c_canW (hX : own_Ctx l Z a0 zc fm us ss) (hO : Old Z n0 h) (c : Int32) (hw2 : (255 : Int32) < c) :
    Con [] false l Z own_EL n0 [] (⟨"java/lang/StringLatin1", "canEncode", "(C)Z"⟩ : MethodName) B11 1 (some .boolean) ({ frames := 0, cells := 0, slots := 0, locals := 0 } : Room) #[(.int c)] h (fun v h' sf => v = some (.int (0 : Int32)) ∧ h = h') := by
  obtain ⟨hw, hEL, hcs, hcz, hfm, hfr, hst, hKn, hus, hss, had, hhi, hlo⟩ := id hX
  refine Con.intro (Ls := #[.val (.int c)]) pn11 hEL hO (fun m => rfl) fun C vm T hl X hs => ?_
  have X : On C ({ frames := 0, cells := 0, slots := 0, locals := 0 } : Room) "java/lang/StringLatin1" B11 1 (some .boolean) "canEncode" false Z a0 own_EL n0 vm T h 0 0 := X
  refine X.iload_n i11_0 rfl ?_
  refine X.sipush i11_1 (z := (255 : Int32)) rfl ?_
  refine X.icY i11_4 j4_7 (XT.ii_gt_t hw2) ?_
  refine X.iconst i11_11 (z := (0 : Int32)) rfl ?_
  exact X.ireturn i11_12 (t := .boolean) rfl (by decide) rfl (by decide) (by decide) (fun sf hsf => ⟨rfl, rfl⟩)
theorem c_sbb1 (hX : own_Ctx l Z a0 zc fm us ss) (hO : Old Z n0 h) (x : Addr) (r : Addr) (E_x : Exa Z h x "java/lang/String") (g_x : n0 ≤ x) (F_xv : Fld Z h x "java/lang/String" "value" "[B" .null) (F_xc : Fld Z h x "java/lang/String" "coder" "B" (.int (0 : Int32))) :
    Con [] false l Z own_EL n0 [x] (⟨"java/lang/String", "<init>", "([BB)V"⟩ : MethodName) B13 3 none ({ frames := 1, cells := 0, slots := 0, locals := 12 } : Room) #[(.ref x), (.ref r), (.int (1 : Int32))] h (fun v h' sf => v = none ∧ Keep h h' [x] ∧ Exa Z h' x "java/lang/String" ∧ Fld Z h' x "java/lang/String" "value" "[B" (.ref r) ∧ Fld Z h' x "java/lang/String" "coder" "B" (.int (1 : Int32))) := by
  obtain ⟨hw, hEL, hcs, hcz, hfm, hfr, hst, hKn, hus, hss, had, hhi, hlo⟩ := id hX
  refine Con.intro (Ls := #[.val (.ref x), .val (.ref r), .val (.int (1 : Int32))]) pn13 hEL hO (fun m => rfl) fun C vm T hl X hs => ?_
  have X : On C ({ frames := 1, cells := 0, slots := 0, locals := 12 } : Room) "java/lang/String" B13 3 none "<init>" false Z a0 own_EL n0 vm T h 0 0 := X
  have sf_x := hs x (List.mem_of_getElem? (i := 0) rfl)
  refine X.aload_n i13_0 rfl rfl ?_
  refine X.initO i13_1 (hw _ wd_11) (hw _ wd_12) (hw _ wd_13) rfl (by decide) (W := 0) rfl (by decide) fun T1 X1 => ?_
  refine X1.aload_n i13_4 rfl rfl ?_
  refine X1.aload_n i13_5 rfl rfl ?_
  refine X1.putfield i13_6 (hw _ wd_20) Via.refl F_xv E_x (Or.inr ⟨(hw _ wd_16), rfl, rfl⟩) (hw _ wd_1) (ty := (.array .byte)) (by decide) rfl rfl g_x sf_x fun T2 h2 X2 W2 => ?_
  refine X2.aload_n i13_9 rfl rfl ?_
  refine X2.iload_n i13_10 rfl ?_
  have F3 := (F_xc.other W2 (Or.inr (slot_ne (Or.inr (hw _ wd_17)) (Or.inr (hw _ wd_16)) (by decide) (t := .byte) (t' := (.array .byte)) (by decide) (by decide))))
  have E4 := (E_x.wr W2)
  have Sf6 := ((CHr.wr W2 sf_x X1.chv)).safe (F_xc).lt sf_x
  refine X2.putfield i13_11 (hw _ wd_21) Via.refl F3 E4 (Or.inr ⟨(hw _ wd_17), rfl, rfl⟩) (hw _ wd_1) (ty := .byte) (by decide) rfl rfl g_x Sf6 fun T5 h5 X5 W5 => ?_
  have E7 := (E4.wr W5)
  have F8 := ((F_xv.same W2).other W5 (Or.inr (slot_ne (Or.inr (hw _ wd_16)) (Or.inr (hw _ wd_17)) (by decide) (t := (.array .byte)) (t' := .byte) (by decide) (by decide))))
  exact X5.ret i13_14 rfl (by decide) (by decide) (fun sf hsf => ⟨rfl, (((Keep.refl _ [x]).wr W2 (Or.inl (List.mem_of_getElem? (i := 0) rfl))).wr W5 (Or.inl (List.mem_of_getElem? (i := 0) rfl))), E7, F8, (F3.same W5)⟩)
theorem c_vofW (hX : own_Ctx l Z a0 zc fm us ss) (hO : Old Z n0 h) (c : Int32) (hw2 : (255 : Int32) < c) :
    Con [] false l Z own_EL n0 [] (⟨"java/lang/String", "valueOf", "(C)Ljava/lang/String;"⟩ : MethodName) B14 1 (some (.object "java/lang/String")) ({ frames := 2, cells := 2, slots := 6, locals := 29 } : Room) #[(.int c)] h (fun v h' sf => ∃ (x : Addr) (t : Addr) (kt : ClassId), v = some (.ref x) ∧ Ext h h' ∧ h.size ≤ x ∧ Exa Z h' x "java/lang/String" ∧ Fld Z h' x "java/lang/String" "value" "[B" (.ref t) ∧ Fld Z h' x "java/lang/String" "coder" "B" (.int (1 : Int32)) ∧ Arv Z h' t kt .byte (Int32.ofNat (2 * 1)) (own_wb [c]) (.int (0 : Int32))) := by
  obtain ⟨hw, hEL, hcs, hcz, hfm, hfr, hst, hKn, hus, hss, had, hhi, hlo⟩ := id hX
  refine Con.intro (Ls := #[.val (.int c)]) pn14 hEL hO (fun m => rfl) fun C vm T hl X hs => ?_
  have X : On C ({ frames := 2, cells := 2, slots := 6, locals := 29 } : Room) "java/lang/String" B14 1 (some (.object "java/lang/String")) "valueOf" false Z a0 own_EL n0 vm T h 0 0 := X
  refine X.getstatic i14_0 (hw _ wd_67) Via.refl (hcs.ext X.ext0) fun T1 X1 => ?_
  refine X1.ifN i14_3 (XT.i0_eq_f hcz) ?_
  refine X1.iload_n i14_6 rfl ?_
  refine X1.callS hl (argsL := [(.int c)]) i14_7 (c_canW hX X1.old c hw2) (hw _ wd_305) (hw _ wd_306) (hw _ wd_235) (hw _ wd_307) (by decide) sf_nil pd7 rfl rfl rfl (W := 0) rfl (by decide) (by decide) (k' := 0) rfl (n' := 0) rfl (by decide) (by decide) fun vm2 T2 h2 v2 X2 r2 Q2 => ?_
  obtain ⟨rfl, rfl⟩ := Q2
  show Go _ _ _ _ _ _ _ _ _ _ [(.int (0 : Int32))]
  refine X2.ifY i14_10 j10_16 (by decide) ?_
  refine X2.new i14_26 (hw _ wd_232) (hw _ wd_1) (hw _ wd_2) (k' := 1) rfl (n' := 4) rfl (by decide) (by decide) fun T3 h3 a3 X3 E3 z3 g3 A3 D3 U3 Sf3 => ?_
  refine X3.dup i14_29 rfl ?_
  refine X3.iload_n i14_30 rfl ?_
  refine X3.callS hl (argsL := [(.int c)]) i14_31 (c_tbc hX X3.old c ) (hw _ wd_314) (hw _ wd_315) (hw _ wd_245) (hw _ wd_316) (by decide) sf_nil pd8 rfl rfl rfl (W := 2) rfl (by decide) (by decide) (k' := 2) rfl (n' := 6) rfl (by decide) (by decide) fun vm4 T4 h4 v4 X4 r4 Q4 => ?_
  obtain ⟨r_4, kr_4, rfl, q4_0, q4_1, q4_2⟩ := Q4
  have g5 := Nat.le_trans X3.n0le q4_1
  show Go _ _ _ _ _ _ _ _ _ _ [(.ref r_4), (.ref a3), (.ref a3)]
  refine X4.iconst i14_34 (z := (1 : Int32)) rfl ?_
  have E6 := (A3.ext q4_0)
  have F7 : Fld Z h3 a3 "java/lang/String" "value" "[B" .null := D3 (Or.inr (hw _ wd_16)) (ty := (.array .byte)) (by decide)
  have F8 := (F7.ext q4_0)
  have F9 : Fld Z h3 a3 "java/lang/String" "coder" "B" (.int (0 : Int32)) := D3 (Or.inr (hw _ wd_17)) (ty := .byte) (by decide)
  have F10 := (F9.ext q4_0)
  have Sf12 := (r4).safe (A3).lt Sf3
  refine X4.callI hl (argsL := [(.ref r_4), (.int (1 : Int32))]) (a := a3) i14_35 (c_sbb1 hX X4.old a3 r_4 E6 g3 F8 F10) (hw _ wd_311) (hw _ wd_312) (hw _ wd_2) (hw _ wd_313) rfl (by decide) (sf_cons ⟨Sf12, (E6).lt⟩ sf_nil) pd9 rfl rfl rfl (W := 1) rfl (by decide) (by decide) (k' := 2) rfl (n' := 6) rfl (by decide) (by decide) fun vm11 T11 h11 v11 X11 r11 Q11 => ?_
  obtain ⟨rfl, q11_0, q11_1, q11_2, q11_3⟩ := Q11
  show Go _ _ _ _ _ _ _ _ _ _ [(.ref a3)]
  have V13 := (q4_2.keep q11_0 (ninS (Nat.ne_of_gt (Nat.lt_of_lt_of_le (A3).lt q4_1)) nin0))
  exact X11.areturn i14_38 rfl rfl rfl (by decide) (by decide) (fun sf hsf => ⟨a3, r_4, kr_4, rfl, (ext_keep (ext_trans E3 q4_0) q11_0 (allS (Nat.le_trans (Nat.le_refl _) (Nat.le_of_eq z3)) all0)), (Nat.le_trans (Nat.le_refl _) (Nat.le_of_eq z3)), q11_1, q11_2, q11_3, V13⟩)
theorem c_cfis (hX : own_Ctx l Z a0 zc fm us ss) (hO : Old Z n0 h) (i : Nat) (n : Nat) (m : Nat) (fv : Value) (hfv : fv.isRef = true) (hb : i + n ≤ m) (hm : m ≤ 4000) :
    Con [] false l Z own_EL n0 [] (⟨"jdk/internal/util/Preconditions", "checkFromIndexSize", "(IIILjava/util/function/BiFunction;)I"⟩ : MethodName) B25 4 (some .int) ({ frames := 0, cells := 0, slots := 0, locals := 0 } : Room) #[(.int (Int32.ofNat i)), (.int (Int32.ofNat n)), (.int (Int32.ofNat m)), fv] h (fun v h' sf => v = some (.int (Int32.ofNat i)) ∧ h = h') := by
  rcases ref_cases hfv with rfl | ⟨q_fv, rfl⟩
  · skip
    obtain ⟨hw, hEL, hcs, hcz, hfm, hfr, hst, hKn, hus, hss, had, hhi, hlo⟩ := id hX
    refine Con.intro (Ls := #[.val (.int (Int32.ofNat i)), .val (.int (Int32.ofNat n)), .val (.int (Int32.ofNat m)), .val .null]) pn25 hEL hO (fun m => by first | rfl | (simp [entryFrame, mkF, argsToLocals, Value.category]; done)) fun C vm T hl X hs => ?_
    have X : On C ({ frames := 0, cells := 0, slots := 0, locals := 0 } : Room) "jdk/internal/util/Preconditions" B25 4 (some .int) "checkFromIndexSize" false Z a0 own_EL n0 vm T h 0 0 := X
    refine X.iload_n i25_0 rfl ?_
    refine X.iload_n i25_1 rfl ?_
    refine X.ior i25_2 (z := ((Int32.ofNat m) ||| (Int32.ofNat i))) rfl ?_
    refine X.iload_n i25_3 rfl ?_
    refine X.ior i25_4 (z := (((Int32.ofNat m) ||| (Int32.ofNat i)) ||| (Int32.ofNat n))) rfl ?_
    refine X.ifN i25_5 (XT.i0_lt_f (own_bnd hb hm).1) ?_
    refine X.iload_n i25_8 rfl ?_
    refine X.iload_n i25_9 rfl ?_
    refine X.iload_n i25_10 rfl ?_
    refine X.isub i25_11 (z := ((Int32.ofNat m) - (Int32.ofNat i))) rfl ?_
    refine X.icY i25_12 j12_11 (XT.ii_le_t (own_bnd hb hm).2) ?_
    refine X.iload_n i25_23 rfl ?_
    exact X.ireturn i25_24 (t := .int) rfl (by decide) rfl (by decide) (by decide) (fun sf hsf => ⟨rfl, rfl⟩)
  · skip
    obtain ⟨hw, hEL, hcs, hcz, hfm, hfr, hst, hKn, hus, hss, had, hhi, hlo⟩ := id hX
    refine Con.intro (Ls := #[.val (.int (Int32.ofNat i)), .val (.int (Int32.ofNat n)), .val (.int (Int32.ofNat m)), .val (.ref q_fv)]) pn25 hEL hO (fun m => by first | rfl | (simp [entryFrame, mkF, argsToLocals, Value.category]; done)) fun C vm T hl X hs => ?_
    have X : On C ({ frames := 0, cells := 0, slots := 0, locals := 0 } : Room) "jdk/internal/util/Preconditions" B25 4 (some .int) "checkFromIndexSize" false Z a0 own_EL n0 vm T h 0 0 := X
    refine X.iload_n i25_0 rfl ?_
    refine X.iload_n i25_1 rfl ?_
    refine X.ior i25_2 (z := ((Int32.ofNat m) ||| (Int32.ofNat i))) rfl ?_
    refine X.iload_n i25_3 rfl ?_
    refine X.ior i25_4 (z := (((Int32.ofNat m) ||| (Int32.ofNat i)) ||| (Int32.ofNat n))) rfl ?_
    refine X.ifN i25_5 (XT.i0_lt_f (own_bnd hb hm).1) ?_
    refine X.iload_n i25_8 rfl ?_
    refine X.iload_n i25_9 rfl ?_
    refine X.iload_n i25_10 rfl ?_
    refine X.isub i25_11 (z := ((Int32.ofNat m) - (Int32.ofNat i))) rfl ?_
    refine X.icY i25_12 j12_11 (XT.ii_le_t (own_bnd hb hm).2) ?_
    refine X.iload_n i25_23 rfl ?_
    exact X.ireturn i25_24 (t := .int) rfl (by decide) rfl (by decide) (by decide) (fun sf hsf => ⟨rfl, rfl⟩)
theorem c_cbc (hX : own_Ctx l Z a0 zc fm us ss) (hO : Old Z n0 h) (i : Nat) (n : Nat) (m : Nat) (hb : i + n ≤ m) (hm : m ≤ 4000) :
    Con [] false l Z own_EL n0 [] (⟨"java/lang/String", "checkBoundsOffCount", "(III)I"⟩ : MethodName) B26 3 (some .int) ({ frames := 1, cells := 0, slots := 0, locals := 15 } : Room) #[(.int (Int32.ofNat i)), (.int (Int32.ofNat n)), (.int (Int32.ofNat m))] h (fun v h' sf => v = some (.int (Int32.ofNat i)) ∧ h = h') := by
  obtain ⟨hw, hEL, hcs, hcz, hfm, hfr, hst, hKn, hus, hss, had, hhi, hlo⟩ := id hX
  refine Con.intro (Ls := #[.val (.int (Int32.ofNat i)), .val (.int (Int32.ofNat n)), .val (.int (Int32.ofNat m))]) pn26 hEL hO (fun m => rfl) fun C vm T hl X hs => ?_
  have X : On C ({ frames := 1, cells := 0, slots := 0, locals := 15 } : Room) "java/lang/String" B26 3 (some .int) "checkBoundsOffCount" false Z a0 own_EL n0 vm T h 0 0 := X
  refine X.iload_n i26_0 rfl ?_
  refine X.iload_n i26_1 rfl ?_
  refine X.iload_n i26_2 rfl ?_
  refine X.getstatic i26_3 (hw _ wd_294) Via.refl (hfm.ext X.ext0) fun T1 X1 => ?_
  refine X1.callS hl (argsL := [(.int (Int32.ofNat i)), (.int (Int32.ofNat n)), (.int (Int32.ofNat m)), fm]) i26_6 (c_cfis hX X1.old i n m fm hfr hb hm) (hw _ wd_296) (hw _ wd_297) (hw _ wd_295) (hw _ wd_298) (by decide) sf_nil pd17 rfl rfl rfl (W := 0) rfl (by decide) (by decide) (k' := 0) rfl (n' := 0) rfl (by decide) (by decide) fun vm2 T2 h2 v2 X2 r2 Q2 => ?_
  obtain ⟨rfl, rfl⟩ := Q2
  show Go _ _ _ _ _ _ _ _ _ _ [(.int (Int32.ofNat i))]
  exact X2.ireturn i26_9 (t := .int) rfl (by decide) rfl (by decide) (by decide) (fun sf hsf => ⟨rfl, rfl⟩)
theorem c_cbo (hX : own_Ctx l Z a0 zc fm us ss) (hO : Old Z n0 h) (i : Nat) (n : Nat) (ar : Addr) (ka : ClassId) (m : Nat) (vs : List Value) (V_ar : Arv Z h ar ka .byte (Int32.ofNat (2 * m)) vs (.int (0 : Int32))) (hb : i + n ≤ m) (hm : m ≤ 4000) :
    Con [] false l Z own_EL n0 [] (⟨"java/lang/StringUTF16", "checkBoundsOffCount", "(II[B)V"⟩ : MethodName) B27 3 none ({ frames := 2, cells := 0, slots := 0, locals := 29 } : Room) #[(.int (Int32.ofNat i)), (.int (Int32.ofNat n)), (.ref ar)] h (fun v h' sf => v = none ∧ h = h') := by
  obtain ⟨hw, hEL, hcs, hcz, hfm, hfr, hst, hKn, hus, hss, had, hhi, hlo⟩ := id hX
  refine Con.intro (Ls := #[.val (.int (Int32.ofNat i)), .val (.int (Int32.ofNat n)), .val (.ref ar)]) pn27 hEL hO (fun m => rfl) fun C vm T hl X hs => ?_
  have X : On C ({ frames := 2, cells := 0, slots := 0, locals := 29 } : Room) "java/lang/StringUTF16" B27 3 none "checkBoundsOffCount" false Z a0 own_EL n0 vm T h 0 0 := X
  refine X.iload_n i27_0 rfl ?_
  refine X.iload_n i27_1 rfl ?_
  refine X.aload_n i27_2 rfl rfl ?_
  refine X.callS hl (argsL := [(.ref ar)]) i27_3 (c_ulen hX X.old ar ka m vs V_ar hm) (hw _ wd_288) (hw _ wd_289) (hw _ wd_245) (hw _ wd_290) (by decide) sf_nil pd18 rfl rfl rfl (W := 2) rfl (by decide) (by decide) (k' := 0) rfl (n' := 0) rfl (by decide) (by decide) fun vm1 T1 h1 v1 X1 r1 Q1 => ?_
  obtain ⟨rfl, rfl⟩ := Q1
  show Go _ _ _ _ _ _ _ _ _ _ [(.int (Int32.ofNat m)), (.int (Int32.ofNat n)), (.int (Int32.ofNat i))]
  refine X1.callS hl (argsL := [(.int (Int32.ofNat i)), (.int (Int32.ofNat n)), (.int (Int32.ofNat m))]) i27_6 (c_cbc hX X1.old i n m hb hm) (hw _ wd_291) (hw _ wd_292) (hw _ wd_2) (hw _ wd_293) (by decide) sf_nil pd19 rfl rfl rfl (W := 0) rfl (by decide) (by decide) (k' := 0) rfl (n' := 0) rfl (by decide) (by decide) fun vm2 T2 h2 v2 X2 r2 Q2 => ?_
  obtain ⟨rfl, rfl⟩ := Q2
  show Go _ _ _ _ _ _ _ _ _ _ [(.int (Int32.ofNat i))]
  refine X2.pop i27_9 rfl ?_
  exact X2.ret i27_10 rfl (by decide) (by decide) (fun sf hsf => ⟨rfl, rfl⟩)
theorem c_uinf (hX : own_Ctx l Z a0 zc fm us ss) (hO : Old Z n0 h) (sr : Addr) (ks : ClassId) (N : Int32) (cs : List Int32) (ar : Addr) (ka : ClassId) (m : Nat) (bs : List Int32) (V_sr : Arv Z h sr ks .byte N (cs.map own_f) (.int (0 : Int32))) (V_ar : Arv Z h ar ka .byte (Int32.ofNat (2 * m)) (own_wb bs) (.int (0 : Int32))) (g_ar : n0 ≤ ar) (hN : ∀ i, i < cs.length → Int32.ofNat i < N) (hb : bs.length + cs.length ≤ m) (hm : m ≤ 4000) (hlat : ∀ c ∈ cs, ¬ c < 0 ∧ ¬ (255 : Int32) < c) (nes : sr ≠ ar) :
    Con [] false l Z own_EL n0 [ar] (⟨"java/lang/StringUTF16", "inflate", "([BI[BII)V"⟩ : MethodName) B28 6 none ({ frames := 3, cells := 0, slots := 0, locals := 43 } : Room) #[(.ref sr), (.int (0 : Int32)), (.ref ar), (.int (Int32.ofNat bs.length)), (.int (Int32.ofNat cs.length))] h (fun v h' sf => v = none ∧ Keep h h' [ar] ∧ Arv Z h' ar ka .byte (Int32.ofNat (2 * m)) (own_wb (bs ++ cs)) (.int (0 : Int32)) ∧ sf ar) := by
  obtain ⟨hw, hEL, hcs, hcz, hfm, hfr, hst, hKn, hus, hss, had, hhi, hlo⟩ := id hX
  refine Con.intro (Ls := #[.val (.ref sr), .val (.int (0 : Int32)), .val (.ref ar), .val (.int (Int32.ofNat bs.length)), .val (.int (Int32.ofNat cs.length)), .unset]) pn28 hEL hO (fun m => rfl) fun C vm T hl X hs => ?_
  have X : On C ({ frames := 3, cells := 0, slots := 0, locals := 43 } : Room) "java/lang/StringUTF16" B28 6 none "inflate" false Z a0 own_EL n0 vm T h 0 0 := X
  have sf_ar := hs ar (List.mem_of_getElem? (i := 0) rfl)
  refine X.iload_n i28_0 rfl ?_
  refine X.iload i28_1 rfl ?_
  refine X.aload_n i28_3 rfl rfl ?_
  refine X.callS hl (argsL := [(.int (Int32.ofNat bs.length)), (.int (Int32.ofNat cs.length)), (.ref ar)]) i28_4 (c_cbo hX X.old bs.length cs.length ar ka m (own_wb bs) V_ar hb hm) (hw _ wd_285) (hw _ wd_286) (hw _ wd_245) (hw _ wd_287) (by decide) sf_nil pd20 rfl rfl rfl (W := 0) rfl (by decide) (by decide) (k' := 0) rfl (n' := 0) rfl (by decide) (by decide) fun vm1 T1 h1 v1 X1 r1 Q1 => ?_
  obtain ⟨rfl, rfl⟩ := Q1
  show Go _ _ _ _ _ _ _ _ _ _ []
  refine X1.iconst i28_7 (z := (0 : Int32)) rfl ?_
  refine X1.istore i28_8 (Ls' := #[.val (.ref sr), .val (.int (0 : Int32)), .val (.ref ar), .val (.int (Int32.ofNat bs.length)), .val (.int (Int32.ofNat cs.length)), .val (.int (0 : Int32))]) rfl ?_
  have LP : ∀ (suf pre xs : List Int32) (vmL : Vm) (TL : State) (hL : Heap), cs = pre ++ suf → xs = bs ++ pre → On C ({ frames := 3, cells := 0, slots := 0, locals := 43 } : Room) "java/lang/StringUTF16" B28 6 none "inflate" false Z a0 own_EL n0 vmL TL hL 0 0 → Keep h hL [ar] → CHr Z own_EL vm1 h vmL hL → Arv Z hL ar ka .byte (Int32.ofNat (2 * m)) (own_wb xs) (.int (0 : Int32)) → Go C ({ frames := 3, cells := 0, slots := 0, locals := 43 } : Room) false Z own_EL n0 (fun v h' sf => v = none ∧ Keep h h' [ar] ∧ Arv Z h' ar ka .byte (Int32.ofNat (2 * m)) (own_wb (bs ++ cs)) (.int (0 : Int32)) ∧ sf ar) TL 10 #[.val (.ref sr), .val (.int (Int32.ofNat pre.length)), .val (.ref ar), .val (.int (Int32.ofNat xs.length)), .val (.int (Int32.ofNat cs.length)), .val (.int (Int32.ofNat pre.length))] [] := by
    intro suf
    induction suf with
    | nil =>
      intro pre xs vmL TL hL hh0 hh1 XL KL rL VL
      rw [List.append_nil] at hh0
      subst hh0
      subst hh1
      refine XL.iload i28_10 rfl ?_
      refine XL.iload i28_12 rfl ?_
      refine XL.icY i28_14 j14_27 (XT.ii_ge_t (own_nl8 (Nat.le_refl _) (by omega))) ?_
      have Sf2 := ((r1).trans rL).safe (V_ar).lt sf_ar
      exact XL.ret i28_41 rfl (by decide) (by decide) (fun sf hsf => ⟨rfl, ((Keep.refl _ [ar]).trans KL (allS (Or.inl (List.mem_of_getElem? (i := 0) rfl)) all0)), VL, hsf _ Sf2⟩)
    | cons c suf ih =>
      intro pre xs vmL TL hL hh0 hh1 XL KL rL VL
      have hlt := own_midl hh0
      have hx : xs.length = bs.length + pre.length := by rw [hh1, List.length_append]
      refine XL.iload i28_10 rfl ?_
      refine XL.iload i28_12 rfl ?_
      refine XL.icN i28_14 (XT.ii_ge_f (own_lt8 hlt (by omega))) ?_
      refine XL.aload_n i28_17 rfl rfl ?_
      refine XL.iload_n i28_18 rfl ?_
      refine XL.iinc i28_19 rfl (y := (Int32.ofNat (xs ++ [c]).length)) (own_snl rfl) (Ls' := #[.val (.ref sr), .val (.int (Int32.ofNat pre.length)), .val (.ref ar), .val (.int (Int32.ofNat (xs ++ [c]).length)), .val (.int (Int32.ofNat cs.length)), .val (.int (Int32.ofNat pre.length))]) rfl ?_
      refine XL.aload_n i28_22 rfl rfl ?_
      refine XL.iload_n i28_23 rfl ?_
      refine XL.iinc i28_24 rfl (y := (Int32.ofNat (pre ++ [c]).length)) (own_snl rfl) (Ls' := #[.val (.ref sr), .val (.int (Int32.ofNat (pre ++ [c]).length)), .val (.ref ar), .val (.int (Int32.ofNat (xs ++ [c]).length)), .val (.int (Int32.ofNat cs.length)), .val (.int (Int32.ofNat pre.length))]) rfl ?_
      have V3 := (V_sr.keep KL (ninS nes nin0))
      refine XL.baload i28_27 V3 ⟨own_nn8 (by omega), hN _ hlt⟩ (own_midf hh0 _ (by omega)) ?_
      refine XL.sipush i28_28 (z := (255 : Int32)) rfl ?_
      refine XL.iand i28_31 (z := c) (StrChars.lo8_mask (hlat c (own_midm hh0)).1 (hlat c (own_midm hh0)).2) ?_
      have Sf5 := ((r1).trans rL).safe (V_ar).lt sf_ar
      refine XL.callS hl (argsL := [(.ref ar), (.int (Int32.ofNat xs.length)), (.int c)]) i28_32 (c_pch hX XL.old ar ka m xs c VL g_ar (by omega) hm) (hw _ wd_263) (hw _ wd_264) (hw _ wd_245) (hw _ wd_265) (by decide) (sf_cons ⟨Sf5, (VL).lt⟩ sf_nil) pd12 rfl rfl rfl (W := 0) rfl (by decide) (by decide) (k' := 0) rfl (n' := 0) rfl (by decide) (by decide) fun vm4 T4 h4 v4 X4 r4 Q4 => ?_
      obtain ⟨rfl, q4_0, q4_1, q4_2⟩ := Q4
      show Go _ _ _ _ _ _ _ _ _ _ []
      refine X4.iinc i28_35 rfl (y := (Int32.ofNat (pre ++ [c]).length)) (own_snl rfl) (Ls' := #[.val (.ref sr), .val (.int (Int32.ofNat (pre ++ [c]).length)), .val (.ref ar), .val (.int (Int32.ofNat (xs ++ [c]).length)), .val (.int (Int32.ofNat cs.length)), .val (.int (Int32.ofNat (pre ++ [c]).length))]) rfl ?_
      refine X4.goto i28_38 j38_m28 ?_
      exact ih (pre ++ [c]) (xs ++ [c]) vm4 T4 h4 (own_step hh0) (by rw [hh1, List.append_assoc]) X4 (((Keep.refl _ [ar]).trans KL (allS (Or.inl (List.mem_of_getElem? (i := 0) rfl)) all0)).trans q4_0 (allS (Or.inl (List.mem_of_getElem? (i := 0) rfl)) all0)) ((rL).trans r4) q4_1
  exact LP cs [] bs vm1 T1 h rfl (List.append_nil bs).symm X1 (Keep.refl _ _) (CHr.refl X1.chv) V_ar
theorem c_linf (hX : own_Ctx l Z a0 zc fm us ss) (hO : Old Z n0 h) (sr : Addr) (ks : ClassId) (N : Int32) (cs : List Int32) (ar : Addr) (ka : ClassId) (m : Nat) (bs : List Int32) (V_sr : Arv Z h sr ks .byte N (cs.map own_f) (.int (0 : Int32))) (V_ar : Arv Z h ar ka .byte (Int32.ofNat (2 * m)) (own_wb bs) (.int (0 : Int32))) (g_ar : n0 ≤ ar) (hN : ∀ i, i < cs.length → Int32.ofNat i < N) (hb : bs.length + cs.length ≤ m) (hm : m ≤ 4000) (hlat : ∀ c ∈ cs, ¬ c < 0 ∧ ¬ (255 : Int32) < c) (nes : sr ≠ ar) :
    Con [] false l Z own_EL n0 [ar] (⟨"java/lang/StringLatin1", "inflate", "([BI[BII)V"⟩ : MethodName) B29 5 none ({ frames := 4, cells := 0, slots := 0, locals := 60 } : Room) #[(.ref sr), (.int (0 : Int32)), (.ref ar), (.int (Int32.ofNat bs.length)), (.int (Int32.ofNat cs.length))] h (fun v h' sf => v = none ∧ Keep h h' [ar] ∧ Arv Z h' ar ka .byte (Int32.ofNat (2 * m)) (own_wb (bs ++ cs)) (.int (0 : Int32)) ∧ sf ar) := by
  obtain ⟨hw, hEL, hcs, hcz, hfm, hfr, hst, hKn, hus, hss, had, hhi, hlo⟩ := id hX
  refine Con.intro (Ls := #[.val (.ref sr), .val (.int (0 : Int32)), .val (.ref ar), .val (.int (Int32.ofNat bs.length)), .val (.int (Int32.ofNat cs.length))]) pn29 hEL hO (fun m => rfl) fun C vm T hl X hs => ?_
  have X : On C ({ frames := 4, cells := 0, slots := 0, locals := 60 } : Room) "java/lang/StringLatin1" B29 5 none "inflate" false Z a0 own_EL n0 vm T h 0 0 := X
  have sf_ar := hs ar (List.mem_of_getElem? (i := 0) rfl)
  refine X.aload_n i29_0 rfl rfl ?_
  refine X.iload_n i29_1 rfl ?_
  refine X.aload_n i29_2 rfl rfl ?_
  refine X.iload_n i29_3 rfl ?_
  refine X.iload i29_4 rfl ?_
  refine X.callS hl (argsL := [(.ref sr), (.int (0 : Int32)), (.ref ar), (.int (Int32.ofNat bs.length)), (.int (Int32.ofNat cs.length))]) i29_6 (c_uinf hX X.old sr ks N cs ar ka m bs V_sr V_ar g_ar hN hb hm hlat nes) (hw _ wd_282) (hw _ wd_283) (hw _ wd_245) (hw _ wd_284) (by decide) (sf_cons ⟨sf_ar, (V_ar).lt⟩ sf_nil) pd21 rfl rfl rfl (W := 0) rfl (by decide) (by decide) (k' := 0) rfl (n' := 0) rfl (by decide) (by decide) fun vm1 T1 h1 v1 X1 r1 Q1 => ?_
  obtain ⟨rfl, q1_0, q1_1, q1_2⟩ := Q1
  show Go _ _ _ _ _ _ _ _ _ _ []
  exact X1.ret i29_9 rfl (by decide) (by decide) (fun sf hsf => ⟨rfl, ((Keep.refl _ [ar]).trans q1_0 (allS (Or.inl (List.mem_of_getElem? (i := 0) rfl)) all0)), q1_1, hsf _ q1_2⟩)
theorem c_max (hX : own_Ctx l Z a0 zc fm us ss) (hO : Old Z n0 h) (x : Int32) (y : Int32)  :
    Con [] false l Z own_EL n0 [] (⟨"java/lang/Math", "max", "(II)I"⟩ : MethodName) B30 2 (some .int) ({ frames := 0, cells := 0, slots := 0, locals := 0 } : Room) #[(.int x), (.int y)] h (fun v h' sf => ∃ (r : Int32), v = some (.int r) ∧ h = h' ∧ ((r = y ∧ x < y) ∨ (r = x ∧ ¬ x < y))) := by
  obtain ⟨hw, hEL, hcs, hcz, hfm, hfr, hst, hKn, hus, hss, had, hhi, hlo⟩ := id hX
  refine Con.intro (Ls := #[.val (.int x), .val (.int y)]) pn30 hEL hO (fun m => rfl) fun C vm T hl X hs => ?_
  have X : On C ({ frames := 0, cells := 0, slots := 0, locals := 0 } : Room) "java/lang/Math" B30 2 (some .int) "max" false Z a0 own_EL n0 vm T h 0 0 := X
  refine X.iload_n i30_0 rfl ?_
  refine X.iload_n i30_1 rfl ?_
  by_cases hc : x < y
  · skip
    refine X.icY i30_2 j2_7 (XT.ii_lt_t hc) ?_
    refine X.iload_n i30_9 rfl ?_
    exact X.ireturn i30_10 (t := .int) rfl (by decide) rfl (by decide) (by decide) (fun sf hsf => ⟨y, rfl, rfl, Or.inl ⟨rfl, hc⟩⟩)
  · skip
    refine X.icN i30_2 (XT.ii_lt_f hc) ?_
    refine X.iload_n i30_5 rfl ?_
    refine X.goto i30_6 j6_4 ?_
    exact X.ireturn i30_10 (t := .int) rfl (by decide) rfl (by decide) (by decide) (fun sf hsf => ⟨x, rfl, rfl, Or.inr ⟨rfl, hc⟩⟩)
theorem c_min (hX : own_Ctx l Z a0 zc fm us ss) (hO : Old Z n0 h) (x : Int32) (y : Int32)  :
    Con [] false l Z own_EL n0 [] (⟨"java/lang/Math", "min", "(II)I"⟩ : MethodName) B31 2 (some .int) ({ frames := 0, cells := 0, slots := 0, locals := 0 } : Room) #[(.int x), (.int y)] h (fun v h' sf => ∃ (r : Int32), v = some (.int r) ∧ h = h' ∧ ((r = x ∧ ¬ y < x) ∨ (r = y ∧ y < x))) := by
  obtain ⟨hw, hEL, hcs, hcz, hfm, hfr, hst, hKn, hus, hss, had, hhi, hlo⟩ := id hX
  refine Con.intro (Ls := #[.val (.int x), .val (.int y)]) pn31 hEL hO (fun m => rfl) fun C vm T hl X hs => ?_
  have X : On C ({ frames := 0, cells := 0, slots := 0, locals := 0 } : Room) "java/lang/Math" B31 2 (some .int) "min" false Z a0 own_EL n0 vm T h 0 0 := X
  refine X.iload_n i31_0 rfl ?_
  refine X.iload_n i31_1 rfl ?_
  by_cases hc : y < x
  · skip
    refine X.icY i31_2 j2_7 (XT.ii_gt_t hc) ?_
    refine X.iload_n i31_9 rfl ?_
    exact X.ireturn i31_10 (t := .int) rfl (by decide) rfl (by decide) (by decide) (fun sf hsf => ⟨y, rfl, rfl, Or.inr ⟨rfl, hc⟩⟩)
  · skip
    refine X.icN i31_2 (XT.ii_gt_f hc) ?_
    refine X.iload_n i31_5 rfl ?_
    refine X.goto i31_6 j6_4 ?_
    exact X.ireturn i31_10 (t := .int) rfl (by decide) rfl (by decide) (by decide) (fun sf hsf => ⟨x, rfl, rfl, Or.inl ⟨rfl, hc⟩⟩)
theorem c_nlL (hX : own_Ctx l Z a0 zc fm us ss) (hO : Old Z n0 h) (g : Int32) (hg : g < (18 : Int32)) :
    Con [] false l Z own_EL n0 [] (⟨"jdk/internal/util/ArraysSupport", "newLength", "(III)I"⟩ : MethodName) B32 4 (some .int) ({ frames := 1, cells := 0, slots := 0, locals := 14 } : Room) #[(.int (16 : Int32)), (.int g), (.int (18 : Int32))] h (fun v h' sf => v = some (.int (34 : Int32)) ∧ h = h') := by
  obtain ⟨hw, hEL, hcs, hcz, hfm, hfr, hst, hKn, hus, hss, had, hhi, hlo⟩ := id hX
  refine Con.intro (Ls := #[.val (.int (16 : Int32)), .val (.int g), .val (.int (18 : Int32)), .unset]) pn32 hEL hO (fun m => rfl) fun C vm T hl X hs => ?_
  have X : On C ({ frames := 1, cells := 0, slots := 0, locals := 14 } : Room) "jdk/internal/util/ArraysSupport" B32 4 (some .int) "newLength" false Z a0 own_EL n0 vm T h 0 0 := X
  refine X.iload_n i32_0 rfl ?_
  refine X.iload_n i32_1 rfl ?_
  refine X.iload_n i32_2 rfl ?_
  refine X.callS hl (argsL := [(.int g), (.int (18 : Int32))]) i32_3 (c_max hX X.old g (18 : Int32) ) (hw _ wd_105) (hw _ wd_106) (hw _ wd_107) (hw _ wd_108) (by decide) sf_nil pd22 rfl rfl rfl (W := 1) rfl (by decide) (by decide) (k' := 0) rfl (n' := 0) rfl (by decide) (by decide) fun vm1 T1 h1 v1 X1 r1 Q1 => ?_
  obtain ⟨r_1, rfl, rfl, q1_1⟩ := Q1
  show Go _ _ _ _ _ _ _ _ _ _ [(.int r_1), (.int (16 : Int32))]
  have hr0 := own_maxB hg q1_1
  subst hr0
  refine X1.iadd i32_6 (z := (34 : Int32)) rfl ?_
  refine X1.istore_n i32_7 (Ls' := #[.val (.int (16 : Int32)), .val (.int g), .val (.int (18 : Int32)), .val (.int (34 : Int32))]) rfl ?_
  refine X1.iconst i32_8 (z := (0 : Int32)) rfl ?_
  refine X1.iload_n i32_9 rfl ?_
  refine X1.icN i32_10 (by decide) ?_
  refine X1.iload_n i32_13 rfl ?_
  refine X1.ldcI i32_14 (hw _ wd_109) ?_
  refine X1.icN i32_16 (by decide) ?_
  refine X1.iload_n i32_19 rfl ?_
  exact X1.ireturn i32_20 (t := .int) rfl (by decide) rfl (by decide) (by decide) (fun sf hsf => ⟨rfl, rfl⟩)
theorem c_ncL (hX : own_Ctx l Z a0 zc fm us ss) (hO : Old Z n0 h) (sb : Addr) (ar : Addr) (ka : ClassId) (vs : List Value) (n : Nat) (F_v : Fld Z h sb "java/lang/AbstractStringBuilder" "value" "[B" (.ref ar)) (F_c : Fld Z h sb "java/lang/AbstractStringBuilder" "coder" "B" (.int (0 : Int32))) (V_ar : Arv Z h ar ka .byte (16 : Int32) vs (.int (0 : Int32))) (gq1 : 16 < n) (gq2 : n ≤ 22) :
    Con [] false l Z own_EL n0 [] (⟨"java/lang/AbstractStringBuilder", "newCapacity", "(I)I"⟩ : MethodName) B33 6 (some .int) ({ frames := 2, cells := 0, slots := 0, locals := 29 } : Room) #[(.ref sb), (.int (Int32.ofNat n))] h (fun v h' sf => v = some (.int (34 : Int32)) ∧ h = h') := by
  obtain ⟨hw, hEL, hcs, hcz, hfm, hfr, hst, hKn, hus, hss, had, hhi, hlo⟩ := id hX
  refine Con.intro (Ls := #[.val (.ref sb), .val (.int (Int32.ofNat n)), .unset, .unset, .unset, .unset]) pn33 hEL hO (fun m => rfl) fun C vm T hl X hs => ?_
  have X : On C ({ frames := 2, cells := 0, slots := 0, locals := 29 } : Room) "java/lang/AbstractStringBuilder" B33 6 (some .int) "newCapacity" false Z a0 own_EL n0 vm T h 0 0 := X
  refine X.aload_n i33_0 rfl rfl ?_
  refine X.getfield i33_1 (hw _ wd_43) Via.refl F_v fun T1 X1 => ?_
  refine X1.arraylength i33_4 V_ar ?_
  refine X1.istore_n i33_5 (Ls' := #[.val (.ref sb), .val (.int (Int32.ofNat n)), .val (.int (16 : Int32)), .unset, .unset, .unset]) rfl ?_
  refine X1.iload_n i33_6 rfl ?_
  refine X1.aload_n i33_7 rfl rfl ?_
  refine X1.getfield i33_8 (hw _ wd_45) Via.refl F_c fun T2 X2 => ?_
  refine X2.ishl i33_11 (z := (Int32.ofNat n)) (own_shl0 _) ?_
  refine X2.istore_n i33_12 (Ls' := #[.val (.ref sb), .val (.int (Int32.ofNat n)), .val (.int (16 : Int32)), .val (.int (Int32.ofNat n)), .unset, .unset]) rfl ?_
  refine X2.iload_n i33_13 rfl ?_
  refine X2.iload_n i33_14 rfl ?_
  refine X2.isub i33_15 (z := ((Int32.ofNat n) - (16 : Int32))) rfl ?_
  refine X2.istore i33_16 (Ls' := #[.val (.ref sb), .val (.int (Int32.ofNat n)), .val (.int (16 : Int32)), .val (.int (Int32.ofNat n)), .val (.int ((Int32.ofNat n) - (16 : Int32))), .unset]) rfl ?_
  refine X2.iload_n i33_18 rfl ?_
  refine X2.iload i33_19 rfl ?_
  refine X2.iload_n i33_21 rfl ?_
  refine X2.iconst i33_22 (z := (2 : Int32)) rfl ?_
  refine X2.aload_n i33_23 rfl rfl ?_
  refine X2.getfield i33_24 (hw _ wd_45) Via.refl F_c fun T3 X3 => ?_
  refine X3.ishl i33_27 (z := (2 : Int32)) rfl ?_
  refine X3.iadd i33_28 (z := (18 : Int32)) rfl ?_
  refine X3.callS hl (argsL := [(.int (16 : Int32)), (.int ((Int32.ofNat n) - (16 : Int32))), (.int (18 : Int32))]) i33_29 (c_nlL hX X3.old ((Int32.ofNat n) - (16 : Int32)) (own_groL gq1 gq2)) (hw _ wd_101) (hw _ wd_102) (hw _ wd_103) (hw _ wd_104) (by decide) sf_nil pd19 rfl rfl rfl (W := 0) rfl (by decide) (by decide) (k' := 0) rfl (n' := 0) rfl (by decide) (by decide) fun vm4 T4 h4 v4 X4 r4 Q4 => ?_
  obtain ⟨rfl, rfl⟩ := Q4
  show Go _ _ _ _ _ _ _ _ _ _ [(.int (34 : Int32))]
  refine X4.istore i33_32 (Ls' := #[.val (.ref sb), .val (.int (Int32.ofNat n)), .val (.int (16 : Int32)), .val (.int (Int32.ofNat n)), .val (.int ((Int32.ofNat n) - (16 : Int32))), .val (.int (34 : Int32))]) rfl ?_
  refine X4.iload i33_34 rfl ?_
  refine X4.ldcI i33_36 (hw _ wd_110) ?_
  refine X4.icY i33_38 j38_13 (by decide) ?_
  refine X4.iload i33_51 rfl ?_
  refine X4.aload_n i33_53 rfl rfl ?_
  refine X4.getfield i33_54 (hw _ wd_45) Via.refl F_c fun T5 X5 => ?_
  refine X5.ishr i33_57 (z := (34 : Int32)) rfl ?_
  exact X5.ireturn i33_58 (t := .int) rfl (by decide) rfl (by decide) (by decide) (fun sf hsf => ⟨rfl, rfl⟩)
theorem c_cpoL (hX : own_Ctx l Z a0 zc fm us ss) (hO : Old Z n0 h) (ar : Addr) (ka : ClassId) (vs : List Value) (V_ar : Arv Z h ar ka .byte (16 : Int32) vs (.int (0 : Int32))) (hle : vs.length ≤ 16) :
    Con [] false l Z own_EL n0 [] (⟨"java/util/Arrays", "copyOf", "([BI)[B"⟩ : MethodName) B34 3 (some (.array .byte)) ({ frames := 1, cells := 1, slots := 34, locals := 18 } : Room) #[(.ref ar), (.int (34 : Int32))] h (fun v h' sf => ∃ (r : Addr) (kr : ClassId), v = some (.ref r) ∧ Ext h h' ∧ h.size ≤ r ∧ Arv Z h' r kr .byte (34 : Int32) vs (.int (0 : Int32)) ∧ sf r) := by
  obtain ⟨hw, hEL, hcs, hcz, hfm, hfr, hst, hKn, hus, hss, had, hhi, hlo⟩ := id hX
  refine Con.intro (Ls := #[.val (.ref ar), .val (.int (34 : Int32)), .unset]) pn34 hEL hO (fun m => rfl) fun C vm T hl X hs => ?_
  have X : On C ({ frames := 1, cells := 1, slots := 34, locals := 18 } : Room) "java/util/Arrays" B34 3 (some (.array .byte)) "copyOf" false Z a0 own_EL n0 vm T h 0 0 := X
  refine X.iload_n i34_0 rfl ?_
  refine X.aload_n i34_1 rfl rfl ?_
  refine X.arraylength i34_2 V_ar ?_
  refine X.icY i34_3 j3_11 (by decide) ?_
  refine X.iload_n i34_14 rfl ?_
  refine X.newarray i34_15 (ty := .byte) rfl (hw _ wd_15) (by decide) (cap := 34) (by decide) (by decide) (k' := 1) rfl (n' := 34) rfl (by decide) (by decide) fun T1 h1 a1 c1 X1 E1 z1 g1 V1 Sf1 => ?_
  have V1 : Arv Z h1 a1 c1 .byte (34 : Int32) ([] : List Value) (.int (0 : Int32)) := V1
  refine X1.astore_n i34_17 rfl (Ls' := #[.val (.ref ar), .val (.int (34 : Int32)), .val (.ref a1)]) rfl ?_
  refine X1.aload_n i34_18 rfl rfl ?_
  refine X1.iconst i34_19 (z := (0 : Int32)) rfl ?_
  refine X1.aload_n i34_20 rfl rfl ?_
  refine X1.iconst i34_21 (z := (0 : Int32)) rfl ?_
  refine X1.aload_n i34_22 rfl rfl ?_
  have V2 := (V_ar.ext E1)
  refine X1.arraylength i34_23 V2 ?_
  refine X1.iload_n i34_24 rfl ?_
  refine X1.callS hl (argsL := [(.int (16 : Int32)), (.int (34 : Int32))]) i34_25 (c_min hX X1.old (16 : Int32) (34 : Int32) ) (hw _ wd_115) (hw _ wd_116) (hw _ wd_107) (hw _ wd_117) (by decide) sf_nil pd22 rfl rfl rfl (W := 4) rfl (by decide) (by decide) (k' := 1) rfl (n' := 34) rfl (by decide) (by decide) fun vm3 T3 h3 v3 X3 r3 Q3 => ?_
  obtain ⟨r_3, rfl, rfl, q3_1⟩ := Q3
  show Go _ _ _ _ _ _ _ _ _ _ [(.int r_3), (.int (0 : Int32)), (.ref a1), (.int (0 : Int32)), (.ref ar)]
  have hr0 : r_3 = (16 : Int32) := by rcases q3_1 with ⟨q, -⟩ | ⟨-, q⟩; exact q; exact absurd q (by decide)
  subst hr0
  have Sf5 := (r3).safe (V1).lt Sf1
  have B4 : Arv Z h1 a1 c1 .byte (34 : Int32) (([] : List Value) ++ List.replicate 16 (.int (0 : Int32))) (.int (0 : Int32)) := Arv.pad (vs := []) V1 (pad_rep [] (.int (0 : Int32)) 16)
  refine X3.arraycopy i34_28 (hw _ wd_118) (hw _ wd_94) (hw _ wd_92) (hw _ wd_93) V2 B4 rfl (by decide) (by decide) (by decide) (by decide) (by decide) rfl (by rw [(show (16 : Int32).toNatClampNeg = 16 by decide)]; show 0 + _ ≤ _; simp) g1 Sf5 rfl (by decide) (W := 0) rfl (by decide) fun T4 h4 X4 K4 V4 => ?_
  have V4 : Arv Z h4 a1 c1 .byte (34 : Int32) vs (.int (0 : Int32)) := V4.pad (own_cp0 vs (.int (0 : Int32)) 16 (show (16 : Int32).toNatClampNeg = 16 by decide) hle)
  refine X4.aload_n i34_31 rfl rfl ?_
  have Sf6 := ((CHr.keep K4 (sfS Sf5 sf0) X3.chv)).safe (Nat.lt_of_lt_of_le (V1).lt (Nat.le_refl _)) Sf5
  exact X4.areturn i34_32 rfl rfl rfl (by decide) (by decide) (fun sf hsf => ⟨a1, c1, rfl, (ext_keep E1 K4 (allS (Nat.le_of_eq z1) all0)), (Nat.le_of_eq z1), V4, hsf _ Sf6⟩)
theorem c_egL (hX : own_Ctx l Z a0 zc fm us ss) (hO : Old Z n0 h) (sb : Addr) (ar : Addr) (ka : ClassId) (vs : List Value) (n : Nat) (x : Int32) (E_sb : Exa Z h sb "java/lang/StringBuilder") (g_sb : n0 ≤ sb) (F_v : Fld Z h sb "java/lang/AbstractStringBuilder" "value" "[B" (.ref ar)) (F_c : Fld Z h sb "java/lang/AbstractStringBuilder" "coder" "B" (.int (0 : Int32))) (V_ar : Arv Z h ar ka .byte (16 : Int32) vs (.int (0 : Int32))) (F_n : Fld Z h sb "java/lang/AbstractStringBuilder" "count" "I" (.int x)) (hle : vs.length ≤ 16) (nes : sb ≠ ar) (gq1 : 16 < n) (gq2 : n ≤ 22) :
    Con [] false l Z own_EL n0 [] (⟨"java/lang/AbstractStringBuilder", "ensureCapacityInternal", "(I)V"⟩ : MethodName) B2 3 none ({ frames := 3, cells := 1, slots := 34, locals := 48 } : Room) #[(.ref sb), (.int (Int32.ofNat n))] h (fun v h' sf => ∃ (r : Addr) (kr : ClassId), v = none ∧ Keep h h' [sb] ∧ h.size ≤ r ∧ Fld Z h' sb "java/lang/AbstractStringBuilder" "value" "[B" (.ref r) ∧ Fld Z h' sb "java/lang/AbstractStringBuilder" "coder" "B" (.int (0 : Int32)) ∧ Fld Z h' sb "java/lang/AbstractStringBuilder" "count" "I" (.int x) ∧ Arv Z h' r kr .byte (34 : Int32) vs (.int (0 : Int32)) ∧ sf r) := by
  obtain ⟨hw, hEL, hcs, hcz, hfm, hfr, hst, hKn, hus, hss, had, hhi, hlo⟩ := id hX
  refine Con.intro (Ls := #[.val (.ref sb), .val (.int (Int32.ofNat n)), .unset]) pn2 hEL hO (fun m => rfl) fun C vm T hl X hs => ?_
  have X : On C ({ frames := 3, cells := 1, slots := 34, locals := 48 } : Room) "java/lang/AbstractStringBuilder" B2 3 none "ensureCapacityInternal" false Z a0 own_EL n0 vm T h 0 0 := X
  refine X.aload_n i2_0 rfl rfl ?_
  refine X.getfield i2_1 (hw _ wd_43) Via.refl F_v fun T1 X1 => ?_
  refine X1.arraylength i2_4 V_ar ?_
  refine X1.aload_n i2_5 rfl rfl ?_
  refine X1.getfield i2_6 (hw _ wd_45) Via.refl F_c fun T2 X2 => ?_
  refine X2.ishr i2_9 (z := (16 : Int32)) rfl ?_
  refine X2.istore_n i2_10 (Ls' := #[.val (.ref sb), .val (.int (Int32.ofNat n)), .val (.int (16 : Int32))]) rfl ?_
  refine X2.iload_n i2_11 rfl ?_
  refine X2.iload_n i2_12 rfl ?_
  refine X2.isub i2_13 (z := ((Int32.ofNat n) - (16 : Int32))) rfl ?_
  refine X2.ifN i2_14 (XT.i0_le_f (own_grow gq1 gq2)) ?_
  refine X2.aload_n i2_17 rfl rfl ?_
  refine X2.aload_n i2_18 rfl rfl ?_
  refine X2.getfield i2_19 (hw _ wd_43) Via.refl F_v fun T3 X3 => ?_
  refine X3.aload_n i2_22 rfl rfl ?_
  refine X3.iload_n i2_23 rfl ?_
  refine X3.callP hl (argsL := [(.int (Int32.ofNat n))]) (a := sb) i2_24 (c_ncL hX X3.old sb ar ka vs n F_v F_c V_ar gq1 gq2) E_sb (hw _ wd_96) (hw _ wd_97) (selP (by decide) (hw _ wd_99) (hw _ wd_97) (hw _ wd_98)) (hw _ wd_98) (hw _ wd_39) (hw _ wd_100) (by decide) sf_nil pd10 rfl rfl rfl (W := 2) rfl (by decide) (by decide) (k' := 0) rfl (n' := 0) rfl (by decide) (by decide) fun vm4 T4 h4 v4 X4 r4 Q4 => ?_
  obtain ⟨rfl, rfl⟩ := Q4
  show Go _ _ _ _ _ _ _ _ _ _ [(.int (34 : Int32)), (.ref ar), (.ref sb)]
  refine X4.aload_n i2_27 rfl rfl ?_
  refine X4.getfield i2_28 (hw _ wd_45) Via.refl F_c fun T5 X5 => ?_
  refine X5.ishl i2_31 (z := (34 : Int32)) rfl ?_
  refine X5.callS hl (argsL := [(.ref ar), (.int (34 : Int32))]) i2_32 (c_cpoL hX X5.old ar ka vs V_ar hle) (hw _ wd_111) (hw _ wd_112) (hw _ wd_113) (hw _ wd_114) (by decide) sf_nil pd23 rfl rfl rfl (W := 1) rfl (by decide) (by decide) (k' := 1) rfl (n' := 34) rfl (by decide) (by decide) fun vm6 T6 h6 v6 X6 r6 Q6 => ?_
  obtain ⟨r_6, kr_6, rfl, q6_0, q6_1, q6_2, q6_3⟩ := Q6
  have g7 := Nat.le_trans X4.n0le q6_1
  show Go _ _ _ _ _ _ _ _ _ _ [(.ref r_6), (.ref sb)]
  have F8 := (F_v.ext q6_0)
  have E9 := (E_sb.ext q6_0)
  refine X6.putfield i2_35 (hw _ wd_43) Via.refl F8 E9 (Or.inl (hw _ wd_44)) (hw _ wd_30) (ty := (.array .byte)) (by decide) rfl rfl g_sb (Safe.exa X6.zw.alike E9 (by decide) (by decide)) fun T10 h10 X10 W10 => ?_
  have F11 := ((F_c.ext q6_0).other W10 (Or.inr (slot_ne (Or.inl (hw _ wd_46)) (Or.inl (hw _ wd_44)) (by decide) (t := .byte) (t' := (.array .byte)) (by decide) (by decide))))
  have F12 := ((F_n.ext q6_0).other W10 (Or.inr (slot_ne (Or.inl (hw _ wd_69)) (Or.inl (hw _ wd_44)) (by decide) (t := .int) (t' := (.array .byte)) (by decide) (by decide))))
  have V13 := (q6_2.other W10 (Nat.ne_of_gt (Nat.lt_of_lt_of_le (Nat.lt_of_lt_of_le (F_v).lt (Nat.le_refl _)) q6_1)))
  have Sf14 := ((CHr.wr W10 (Safe.exa X6.zw.alike E9 (by decide) (by decide)) X6.chv)).safe (q6_2).lt q6_3
  exact X10.ret i2_38 rfl (by decide) (by decide) (fun sf hsf => ⟨r_6, kr_6, rfl, (((Keep.refl _ [sb]).ext q6_0).wr W10 (Or.inl (List.mem_of_getElem? (i := 0) rfl))), (Nat.le_trans (Nat.le_refl _) q6_1), (F8.same W10), F11, F12, V13, hsf _ Sf14⟩)
theorem c_nlW (hX : own_Ctx l Z a0 zc fm us ss) (hO : Old Z n0 h) (g : Int32) (hg : g < (36 : Int32)) :
    Con [] false l Z own_EL n0 [] (⟨"jdk/internal/util/ArraysSupport", "newLength", "(III)I"⟩ : MethodName) B32 4 (some .int) ({ frames := 1, cells := 0, slots := 0, locals := 14 } : Room) #[(.int (32 : Int32)), (.int g), (.int (36 : Int32))] h (fun v h' sf => v = some (.int (68 : Int32)) ∧ h = h') := by
  obtain ⟨hw, hEL, hcs, hcz, hfm, hfr, hst, hKn, hus, hss, had, hhi, hlo⟩ := id hX
  refine Con.intro (Ls := #[.val (.int (32 : Int32)), .val (.int g), .val (.int (36 : Int32)), .unset]) pn32 hEL hO (fun m => rfl) fun C vm T hl X hs => ?_
  have X : On C ({ frames := 1, cells := 0, slots := 0, locals := 14 } : Room) "jdk/internal/util/ArraysSupport" B32 4 (some .int) "newLength" false Z a0 own_EL n0 vm T h 0 0 := X
  refine X.iload_n i32_0 rfl ?_
  refine X.iload_n i32_1 rfl ?_
  refine X.iload_n i32_2 rfl ?_
  refine X.callS hl (argsL := [(.int g), (.int (36 : Int32))]) i32_3 (c_max hX X.old g (36 : Int32) ) (hw _ wd_105) (hw _ wd_106) (hw _ wd_107) (hw _ wd_108) (by decide) sf_nil pd22 rfl rfl rfl (W := 1) rfl (by decide) (by decide) (k' := 0) rfl (n' := 0) rfl (by decide) (by decide) fun vm1 T1 h1 v1 X1 r1 Q1 => ?_
  obtain ⟨r_1, rfl, rfl, q1_1⟩ := Q1
  show Go _ _ _ _ _ _ _ _ _ _ [(.int r_1), (.int (32 : Int32))]
  have hr0 := own_maxB hg q1_1
  subst hr0
  refine X1.iadd i32_6 (z := (68 : Int32)) rfl ?_
  refine X1.istore_n i32_7 (Ls' := #[.val (.int (32 : Int32)), .val (.int g), .val (.int (36 : Int32)), .val (.int (68 : Int32))]) rfl ?_
  refine X1.iconst i32_8 (z := (0 : Int32)) rfl ?_
  refine X1.iload_n i32_9 rfl ?_
  refine X1.icN i32_10 (by decide) ?_
  refine X1.iload_n i32_13 rfl ?_
  refine X1.ldcI i32_14 (hw _ wd_109) ?_
  refine X1.icN i32_16 (by decide) ?_
  refine X1.iload_n i32_19 rfl ?_
  exact X1.ireturn i32_20 (t := .int) rfl (by decide) rfl (by decide) (by decide) (fun sf hsf => ⟨rfl, rfl⟩)
theorem c_ncW (hX : own_Ctx l Z a0 zc fm us ss) (hO : Old Z n0 h) (sb : Addr) (ar : Addr) (ka : ClassId) (vs : List Value) (n : Nat) (F_v : Fld Z h sb "java/lang/AbstractStringBuilder" "value" "[B" (.ref ar)) (F_c : Fld Z h sb "java/lang/AbstractStringBuilder" "coder" "B" (.int (1 : Int32))) (V_ar : Arv Z h ar ka .byte (32 : Int32) vs (.int (0 : Int32))) (gq1 : 16 < n) (gq2 : n ≤ 22) :
    Con [] false l Z own_EL n0 [] (⟨"java/lang/AbstractStringBuilder", "newCapacity", "(I)I"⟩ : MethodName) B33 6 (some .int) ({ frames := 2, cells := 0, slots := 0, locals := 29 } : Room) #[(.ref sb), (.int (Int32.ofNat n))] h (fun v h' sf => v = some (.int (34 : Int32)) ∧ h = h') := by
  obtain ⟨hw, hEL, hcs, hcz, hfm, hfr, hst, hKn, hus, hss, had, hhi, hlo⟩ := id hX
  refine Con.intro (Ls := #[.val (.ref sb), .val (.int (Int32.ofNat n)), .unset, .unset, .unset, .unset]) pn33 hEL hO (fun m => rfl) fun C vm T hl X hs => ?_
  have X : On C ({ frames := 2, cells := 0, slots := 0, locals := 29 } : Room) "java/lang/AbstractStringBuilder" B33 6 (some .int) "newCapacity" false Z a0 own_EL n0 vm T h 0 0 := X
  refine X.aload_n i33_0 rfl rfl ?_
  refine X.getfield i33_1 (hw _ wd_43) Via.refl F_v fun T1 X1 => ?_
  refine X1.arraylength i33_4 V_ar ?_
  refine X1.istore_n i33_5 (Ls' := #[.val (.ref sb), .val (.int (Int32.ofNat n)), .val (.int (32 : Int32)), .unset, .unset, .unset]) rfl ?_
  refine X1.iload_n i33_6 rfl ?_
  refine X1.aload_n i33_7 rfl rfl ?_
  refine X1.getfield i33_8 (hw _ wd_45) Via.refl F_c fun T2 X2 => ?_
  refine X2.ishl i33_11 (z := (Int32.ofNat (2 * n))) (own_shl1 (by omega)) ?_
  refine X2.istore_n i33_12 (Ls' := #[.val (.ref sb), .val (.int (Int32.ofNat n)), .val (.int (32 : Int32)), .val (.int (Int32.ofNat (2 * n))), .unset, .unset]) rfl ?_
  refine X2.iload_n i33_13 rfl ?_
  refine X2.iload_n i33_14 rfl ?_
  refine X2.isub i33_15 (z := ((Int32.ofNat (2 * n)) - (32 : Int32))) rfl ?_
  refine X2.istore i33_16 (Ls' := #[.val (.ref sb), .val (.int (Int32.ofNat n)), .val (.int (32 : Int32)), .val (.int (Int32.ofNat (2 * n))), .val (.int ((Int32.ofNat (2 * n)) - (32 : Int32))), .unset]) rfl ?_
  refine X2.iload_n i33_18 rfl ?_
  refine X2.iload i33_19 rfl ?_
  refine X2.iload_n i33_21 rfl ?_
  refine X2.iconst i33_22 (z := (2 : Int32)) rfl ?_
  refine X2.aload_n i33_23 rfl rfl ?_
  refine X2.getfield i33_24 (hw _ wd_45) Via.refl F_c fun T3 X3 => ?_
  refine X3.ishl i33_27 (z := (4 : Int32)) rfl ?_
  refine X3.iadd i33_28 (z := (36 : Int32)) rfl ?_
  refine X3.callS hl (argsL := [(.int (32 : Int32)), (.int ((Int32.ofNat (2 * n)) - (32 : Int32))), (.int (36 : Int32))]) i33_29 (c_nlW hX X3.old ((Int32.ofNat (2 * n)) - (32 : Int32)) (own_groW gq1 gq2)) (hw _ wd_101) (hw _ wd_102) (hw _ wd_103) (hw _ wd_104) (by decide) sf_nil pd19 rfl rfl rfl (W := 0) rfl (by decide) (by decide) (k' := 0) rfl (n' := 0) rfl (by decide) (by decide) fun vm4 T4 h4 v4 X4 r4 Q4 => ?_
  obtain ⟨rfl, rfl⟩ := Q4
  show Go _ _ _ _ _ _ _ _ _ _ [(.int (68 : Int32))]
  refine X4.istore i33_32 (Ls' := #[.val (.ref sb), .val (.int (Int32.ofNat n)), .val (.int (32 : Int32)), .val (.int (Int32.ofNat (2 * n))), .val (.int ((Int32.ofNat (2 * n)) - (32 : Int32))), .val (.int (68 : Int32))]) rfl ?_
  refine X4.iload i33_34 rfl ?_
  refine X4.ldcI i33_36 (hw _ wd_110) ?_
  refine X4.icY i33_38 j38_13 (by decide) ?_
  refine X4.iload i33_51 rfl ?_
  refine X4.aload_n i33_53 rfl rfl ?_
  refine X4.getfield i33_54 (hw _ wd_45) Via.refl F_c fun T5 X5 => ?_
  refine X5.ishr i33_57 (z := (34 : Int32)) rfl ?_
  exact X5.ireturn i33_58 (t := .int) rfl (by decide) rfl (by decide) (by decide) (fun sf hsf => ⟨rfl, rfl⟩)
theorem c_cpoW (hX : own_Ctx l Z a0 zc fm us ss) (hO : Old Z n0 h) (ar : Addr) (ka : ClassId) (vs : List Value) (V_ar : Arv Z h ar ka .byte (32 : Int32) vs (.int (0 : Int32))) (hle : vs.length ≤ 32) :
    Con [] false l Z own_EL n0 [] (⟨"java/util/Arrays", "copyOf", "([BI)[B"⟩ : MethodName) B34 3 (some (.array .byte)) ({ frames := 1, cells := 1, slots := 68, locals := 18 } : Room) #[(.ref ar), (.int (68 : Int32))] h (fun v h' sf => ∃ (r : Addr) (kr : ClassId), v = some (.ref r) ∧ Ext h h' ∧ h.size ≤ r ∧ Arv Z h' r kr .byte (Int32.ofNat (2 * 34)) vs (.int (0 : Int32)) ∧ sf r) := by
  obtain ⟨hw, hEL, hcs, hcz, hfm, hfr, hst, hKn, hus, hss, had, hhi, hlo⟩ := id hX
  refine Con.intro (Ls := #[.val (.ref ar), .val (.int (68 : Int32)), .unset]) pn34 hEL hO (fun m => rfl) fun C vm T hl X hs => ?_
  have X : On C ({ frames := 1, cells := 1, slots := 68, locals := 18 } : Room) "java/util/Arrays" B34 3 (some (.array .byte)) "copyOf" false Z a0 own_EL n0 vm T h 0 0 := X
  refine X.iload_n i34_0 rfl ?_
  refine X.aload_n i34_1 rfl rfl ?_
  refine X.arraylength i34_2 V_ar ?_
  refine X.icY i34_3 j3_11 (by decide) ?_
  refine X.iload_n i34_14 rfl ?_
  refine X.newarray i34_15 (ty := .byte) rfl (hw _ wd_15) (by decide) (cap := 68) (by decide) (by decide) (k' := 1) rfl (n' := 68) rfl (by decide) (by decide) fun T1 h1 a1 c1 X1 E1 z1 g1 V1 Sf1 => ?_
  have V1 : Arv Z h1 a1 c1 .byte (68 : Int32) ([] : List Value) (.int (0 : Int32)) := V1
  refine X1.astore_n i34_17 rfl (Ls' := #[.val (.ref ar), .val (.int (68 : Int32)), .val (.ref a1)]) rfl ?_
  refine X1.aload_n i34_18 rfl rfl ?_
  refine X1.iconst i34_19 (z := (0 : Int32)) rfl ?_
  refine X1.aload_n i34_20 rfl rfl ?_
  refine X1.iconst i34_21 (z := (0 : Int32)) rfl ?_
  refine X1.aload_n i34_22 rfl rfl ?_
  have V2 := (V_ar.ext E1)
  refine X1.arraylength i34_23 V2 ?_
  refine X1.iload_n i34_24 rfl ?_
  refine X1.callS hl (argsL := [(.int (32 : Int32)), (.int (68 : Int32))]) i34_25 (c_min hX X1.old (32 : Int32) (68 : Int32) ) (hw _ wd_115) (hw _ wd_116) (hw _ wd_107) (hw _ wd_117) (by decide) sf_nil pd22 rfl rfl rfl (W := 4) rfl (by decide) (by decide) (k' := 1) rfl (n' := 68) rfl (by decide) (by decide) fun vm3 T3 h3 v3 X3 r3 Q3 => ?_
  obtain ⟨r_3, rfl, rfl, q3_1⟩ := Q3
  show Go _ _ _ _ _ _ _ _ _ _ [(.int r_3), (.int (0 : Int32)), (.ref a1), (.int (0 : Int32)), (.ref ar)]
  have hr0 : r_3 = (32 : Int32) := by rcases q3_1 with ⟨q, -⟩ | ⟨-, q⟩; exact q; exact absurd q (by decide)
  subst hr0
  have Sf5 := (r3).safe (V1).lt Sf1
  have B4 : Arv Z h1 a1 c1 .byte (68 : Int32) (([] : List Value) ++ List.replicate 32 (.int (0 : Int32))) (.int (0 : Int32)) := Arv.pad (vs := []) V1 (pad_rep [] (.int (0 : Int32)) 32)
  refine X3.arraycopy i34_28 (hw _ wd_118) (hw _ wd_94) (hw _ wd_92) (hw _ wd_93) V2 B4 rfl (by decide) (by decide) (by decide) (by decide) (by decide) rfl (by rw [(show (32 : Int32).toNatClampNeg = 32 by decide)]; show 0 + _ ≤ _; simp) g1 Sf5 rfl (by decide) (W := 0) rfl (by decide) fun T4 h4 X4 K4 V4 => ?_
  have V4 : Arv Z h4 a1 c1 .byte (68 : Int32) vs (.int (0 : Int32)) := V4.pad (own_cp0 vs (.int (0 : Int32)) 32 (show (32 : Int32).toNatClampNeg = 32 by decide) hle)
  refine X4.aload_n i34_31 rfl rfl ?_
  have Sf6 := ((CHr.keep K4 (sfS Sf5 sf0) X3.chv)).safe (Nat.lt_of_lt_of_le (V1).lt (Nat.le_refl _)) Sf5
  exact X4.areturn i34_32 rfl rfl rfl (by decide) (by decide) (fun sf hsf => ⟨a1, c1, rfl, (ext_keep E1 K4 (allS (Nat.le_of_eq z1) all0)), (Nat.le_of_eq z1), V4, hsf _ Sf6⟩)
theorem c_egW (hX : own_Ctx l Z a0 zc fm us ss) (hO : Old Z n0 h) (sb : Addr) (ar : Addr) (ka : ClassId) (vs : List Value) (n : Nat) (x : Int32) (E_sb : Exa Z h sb "java/lang/StringBuilder") (g_sb : n0 ≤ sb) (F_v : Fld Z h sb "java/lang/AbstractStringBuilder" "value" "[B" (.ref ar)) (F_c : Fld Z h sb "java/lang/AbstractStringBuilder" "coder" "B" (.int (1 : Int32))) (V_ar : Arv Z h ar ka .byte (32 : Int32) vs (.int (0 : Int32))) (F_n : Fld Z h sb "java/lang/AbstractStringBuilder" "count" "I" (.int x)) (F_m : Fld Z h sb "java/lang/AbstractStringBuilder" "maybeLatin1" "Z" (.int (0 : Int32))) (hle : vs.length ≤ 32) (nes : sb ≠ ar) (gq1 : 16 < n) (gq2 : n ≤ 22) :
    Con [] false l Z own_EL n0 [] (⟨"java/lang/AbstractStringBuilder", "ensureCapacityInternal", "(I)V"⟩ : MethodName) B2 3 none ({ frames := 3, cells := 1, slots := 68, locals := 48 } : Room) #[(.ref sb), (.int (Int32.ofNat n))] h (fun v h' sf => ∃ (r : Addr) (kr : ClassId), v = none ∧ Keep h h' [sb] ∧ h.size ≤ r ∧ Fld Z h' sb "java/lang/AbstractStringBuilder" "value" "[B" (.ref r) ∧ Fld Z h' sb "java/lang/AbstractStringBuilder" "coder" "B" (.int (1 : Int32)) ∧ Fld Z h' sb "java/lang/AbstractStringBuilder" "count" "I" (.int x) ∧ Fld Z h' sb "java/lang/AbstractStringBuilder" "maybeLatin1" "Z" (.int (0 : Int32)) ∧ Arv Z h' r kr .byte (Int32.ofNat (2 * 34)) vs (.int (0 : Int32)) ∧ sf r) := by
  obtain ⟨hw, hEL, hcs, hcz, hfm, hfr, hst, hKn, hus, hss, had, hhi, hlo⟩ := id hX
  refine Con.intro (Ls := #[.val (.ref sb), .val (.int (Int32.ofNat n)), .unset]) pn2 hEL hO (fun m => rfl) fun C vm T hl X hs => ?_
  have X : On C ({ frames := 3, cells := 1, slots := 68, locals := 48 } : Room) "java/lang/AbstractStringBuilder" B2 3 none "ensureCapacityInternal" false Z a0 own_EL n0 vm T h 0 0 := X
  refine X.aload_n i2_0 rfl rfl ?_
  refine X.getfield i2_1 (hw _ wd_43) Via.refl F_v fun T1 X1 => ?_
  refine X1.arraylength i2_4 V_ar ?_
  refine X1.aload_n i2_5 rfl rfl ?_
  refine X1.getfield i2_6 (hw _ wd_45) Via.refl F_c fun T2 X2 => ?_
  refine X2.ishr i2_9 (z := (16 : Int32)) rfl ?_
  refine X2.istore_n i2_10 (Ls' := #[.val (.ref sb), .val (.int (Int32.ofNat n)), .val (.int (16 : Int32))]) rfl ?_
  refine X2.iload_n i2_11 rfl ?_
  refine X2.iload_n i2_12 rfl ?_
  refine X2.isub i2_13 (z := ((Int32.ofNat n) - (16 : Int32))) rfl ?_
  refine X2.ifN i2_14 (XT.i0_le_f (own_grow gq1 gq2)) ?_
  refine X2.aload_n i2_17 rfl rfl ?_
  refine X2.aload_n i2_18 rfl rfl ?_
  refine X2.getfield i2_19 (hw _ wd_43) Via.refl F_v fun T3 X3 => ?_
  refine X3.aload_n i2_22 rfl rfl ?_
  refine X3.iload_n i2_23 rfl ?_
  refine X3.callP hl (argsL := [(.int (Int32.ofNat n))]) (a := sb) i2_24 (c_ncW hX X3.old sb ar ka vs n F_v F_c V_ar gq1 gq2) E_sb (hw _ wd_96) (hw _ wd_97) (selP (by decide) (hw _ wd_99) (hw _ wd_97) (hw _ wd_98)) (hw _ wd_98) (hw _ wd_39) (hw _ wd_100) (by decide) sf_nil pd10 rfl rfl rfl (W := 2) rfl (by decide) (by decide) (k' := 0) rfl (n' := 0) rfl (by decide) (by decide) fun vm4 T4 h4 v4 X4 r4 Q4 => ?_
  obtain ⟨rfl, rfl⟩ := Q4
  show Go _ _ _ _ _ _ _ _ _ _ [(.int (34 : Int32)), (.ref ar), (.ref sb)]
  refine X4.aload_n i2_27 rfl rfl ?_
  refine X4.getfield i2_28 (hw _ wd_45) Via.refl F_c fun T5 X5 => ?_
  refine X5.ishl i2_31 (z := (68 : Int32)) rfl ?_
  refine X5.callS hl (argsL := [(.ref ar), (.int (68 : Int32))]) i2_32 (c_cpoW hX X5.old ar ka vs V_ar hle) (hw _ wd_111) (hw _ wd_112) (hw _ wd_113) (hw _ wd_114) (by decide) sf_nil pd23 rfl rfl rfl (W := 1) rfl (by decide) (by decide) (k' := 1) rfl (n' := 68) rfl (by decide) (by decide) fun vm6 T6 h6 v6 X6 r6 Q6 => ?_
  obtain ⟨r_6, kr_6, rfl, q6_0, q6_1, q6_2, q6_3⟩ := Q6
  have g7 := Nat.le_trans X4.n0le q6_1
  show Go _ _ _ _ _ _ _ _ _ _ [(.ref r_6), (.ref sb)]
  have F8 := (F_v.ext q6_0)
  have E9 := (E_sb.ext q6_0)
  refine X6.putfield i2_35 (hw _ wd_43) Via.refl F8 E9 (Or.inl (hw _ wd_44)) (hw _ wd_30) (ty := (.array .byte)) (by decide) rfl rfl g_sb (Safe.exa X6.zw.alike E9 (by decide) (by decide)) fun T10 h10 X10 W10 => ?_
  have F11 := ((F_c.ext q6_0).other W10 (Or.inr (slot_ne (Or.inl (hw _ wd_46)) (Or.inl (hw _ wd_44)) (by decide) (t := .byte) (t' := (.array .byte)) (by decide) (by decide))))
  have F12 := ((F_n.ext q6_0).other W10 (Or.inr (slot_ne (Or.inl (hw _ wd_69)) (Or.inl (hw _ wd_44)) (by decide) (t := .int) (t' := (.array .byte)) (by decide) (by decide))))
  have F13 := ((F_m.ext q6_0).other W10 (Or.inr (slot_ne (Or.inl (hw _ wd_301)) (Or.inl (hw _ wd_44)) (by decide) (t := .boolean) (t' := (.array .byte)) (by decide) (by decide))))
  have V14 := (q6_2.other W10 (Nat.ne_of_gt (Nat.lt_of_lt_of_le (Nat.lt_of_lt_of_le (F_v).lt (Nat.le_refl _)) q6_1)))
  have Sf15 := ((CHr.wr W10 (Safe.exa X6.zw.alike E9 (by decide) (by decide)) X6.chv)).safe (q6_2).lt q6_3
  exact X10.ret i2_38 rfl (by decide) (by decide) (fun sf hsf => ⟨r_6, kr_6, rfl, (((Keep.refl _ [sb]).ext q6_0).wr W10 (Or.inl (List.mem_of_getElem? (i := 0) rfl))), (Nat.le_trans (Nat.le_refl _) q6_1), (F8.same W10), F11, F12, F13, V14, hsf _ Sf15⟩)
theorem c_gb34 (hX : own_Ctx l Z a0 zc fm us ss) (hO : Old Z n0 h) (s : Addr) (t : Addr) (kb : ClassId) (cs : List Int32) (ar : Addr) (ka : ClassId) (bs : List Int32) (S_s : Str Z h s t kb cs) (V_ar : Arv Z h ar ka .byte (34 : Int32) (bs.map own_f) (.int (0 : Int32))) (g_ar : n0 ≤ ar) (lc : (bs ++ cs).length ≤ 34) :
    Con [] false l Z own_EL n0 [ar] (⟨"java/lang/String", "getBytes", "([BIB)V"⟩ : MethodName) B3 4 none ({ frames := 1, cells := 0, slots := 0, locals := 18 } : Room) #[(.ref s), (.ref ar), (.int (Int32.ofNat bs.length)), (.int (0 : Int32))] h (fun v h' sf => v = none ∧ Keep h h' [ar] ∧ Arv Z h' ar ka .byte (34 : Int32) ((bs ++ cs).map own_f) (.int (0 : Int32)) ∧ sf ar) := by
  obtain ⟨hw, hEL, hcs, hcz, hfm, hfr, hst, hKn, hus, hss, had, hhi, hlo⟩ := id hX
  refine Con.intro (Ls := #[.val (.ref s), .val (.ref ar), .val (.int (Int32.ofNat bs.length)), .val (.int (0 : Int32))]) pn3 hEL hO (fun m => rfl) fun C vm T hl X hs => ?_
  have X : On C ({ frames := 1, cells := 0, slots := 0, locals := 18 } : Room) "java/lang/String" B3 4 none "getBytes" false Z a0 own_EL n0 vm T h 0 0 := X
  have sf_ar := hs ar (List.mem_of_getElem? (i := 0) rfl)
  have hl16 : bs.length + cs.length ≤ 34 := by rw [← List.length_append]; exact lc
  have lb4 : bs.length ≤ 4000 := by omega
  have lc4 : cs.length ≤ 4000 := by omega
  have Fv1 : Fld Z h s "java/lang/String" "value" "[B" (.ref t) := S_s.2.1
  have Fc1 : Fld Z h s "java/lang/String" "coder" "B" (.int (0 : Int32)) := S_s.2.2.1
  have Vt1 : Arv Z h t kb .byte (Int32.ofNat cs.length) (cs.map own_f) (.int (0 : Int32)) := S_s.2.2.2.1
  refine X.aload_n i3_0 rfl rfl ?_
  refine X.callV hl (argsL := []) (a := s) i3_1 (c_coder hX X.old s Fc1) S_s.1 (hw _ wd_62) (hw _ wd_63) (hw _ wd_65) (nfSel X.zw (hw _ wd_65)) (hw _ wd_64) (hw _ wd_2) (hw _ wd_66) (by decide) sf_nil pd0 rfl rfl rfl (W := 0) rfl (by decide) (by decide) (k' := 0) rfl (n' := 0) rfl (by decide) (by decide) fun vm2 T2 h2 v2 X2 r2 Q2 => ?_
  obtain ⟨rfl, rfl⟩ := Q2
  show Go _ _ _ _ _ _ _ _ _ _ [(.int (0 : Int32))]
  refine X2.iload_n i3_4 rfl ?_
  refine X2.icN i3_5 (by decide) ?_
  refine X2.aload_n i3_8 rfl rfl ?_
  refine X2.getfield i3_9 (hw _ wd_20) Via.refl Fv1 fun T3 X3 => ?_
  refine X3.iconst i3_12 (z := (0 : Int32)) rfl ?_
  refine X3.aload_n i3_13 rfl rfl ?_
  refine X3.iload_n i3_14 rfl ?_
  refine X3.iload_n i3_15 rfl ?_
  refine X3.ishl i3_16 (z := (Int32.ofNat bs.length)) (own_shl0 _) ?_
  refine X3.aload_n i3_17 rfl rfl ?_
  refine X3.getfield i3_18 (hw _ wd_20) Via.refl Fv1 fun T4 X4 => ?_
  refine X4.arraylength i3_21 Vt1 ?_
  have Sf6 := (r2).safe (V_ar).lt sf_ar
  have B5 := V_ar.pad (pad_rep (bs.map own_f) (.int (0 : Int32)) cs.length)
  refine X4.arraycopy i3_22 (hw _ wd_91) (hw _ wd_94) (hw _ wd_92) (hw _ wd_93) Vt1 B5 rfl (by decide) (own_nn lb4) (own_nn lc4) (by rw [own_tn lc4]; exact Nat.le_of_eq (Nat.zero_add _)) (by rw [own_tn lb4, own_tn lc4]; exact hl16) rfl (by rw [own_tn lb4, own_tn lc4]; simp) g_ar Sf6 rfl (by decide) (W := 0) rfl (by decide) fun T5 h5 X5 K5 V5 => ?_
  have V5 : Arv Z h5 ar ka .byte (34 : Int32) ((bs ++ cs).map own_f) (.int (0 : Int32)) := by rw [← own_cat bs cs (.int (0 : Int32)) lb4 lc4 (own_us cs (.int (0 : Int32)) _ (own_tn lc4))]; exact V5
  refine X5.goto i3_25 j25_18 ?_
  have Sf7 := ((CHr.keep K5 (sfS Sf6 sf0) X4.chv)).safe (Nat.lt_of_lt_of_le (V_ar).lt (Nat.le_refl _)) Sf6
  exact X5.ret i3_43 rfl (by decide) (by decide) (fun sf hsf => ⟨rfl, ((Keep.refl _ [ar]).trans K5 (allS (Or.inl (List.mem_of_getElem? (i := 0) rfl)) all0)), V5, hsf _ Sf7⟩)
theorem c_ps34 (hX : own_Ctx l Z a0 zc fm us ss) (hO : Old Z n0 h) (sb : Addr) (s : Addr) (t : Addr) (kb : ClassId) (cs : List Int32) (ar : Addr) (ka : ClassId) (bs : List Int32) (S_s : Str Z h s t kb cs) (E_sb : Exa Z h sb "java/lang/StringBuilder") (F_v : Fld Z h sb "java/lang/AbstractStringBuilder" "value" "[B" (.ref ar)) (F_c : Fld Z h sb "java/lang/AbstractStringBuilder" "coder" "B" (.int (0 : Int32))) (V_ar : Arv Z h ar ka .byte (34 : Int32) (bs.map own_f) (.int (0 : Int32))) (g_ar : n0 ≤ ar) (lc : (bs ++ cs).length ≤ 34) :
    Con [] false l Z own_EL n0 [ar] (⟨"java/lang/AbstractStringBuilder", "putStringAt", "(ILjava/lang/String;)V"⟩ : MethodName) B4 3 none ({ frames := 2, cells := 0, slots := 0, locals := 33 } : Room) #[(.ref sb), (.int (Int32.ofNat bs.length)), (.ref s)] h (fun v h' sf => v = none ∧ Keep h h' [ar] ∧ Arv Z h' ar ka .byte (34 : Int32) ((bs ++ cs).map own_f) (.int (0 : Int32)) ∧ sf ar) := by
  obtain ⟨hw, hEL, hcs, hcz, hfm, hfr, hst, hKn, hus, hss, had, hhi, hlo⟩ := id hX
  refine Con.intro (Ls := #[.val (.ref sb), .val (.int (Int32.ofNat bs.length)), .val (.ref s)]) pn4 hEL hO (fun m => rfl) fun C vm T hl X hs => ?_
  have X : On C ({ frames := 2, cells := 0, slots := 0, locals := 33 } : Room) "java/lang/AbstractStringBuilder" B4 3 none "putStringAt" false Z a0 own_EL n0 vm T h 0 0 := X
  have sf_ar := hs ar (List.mem_of_getElem? (i := 0) rfl)
  have Fv1 : Fld Z h s "java/lang/String" "value" "[B" (.ref t) := S_s.2.1
  have Fc1 : Fld Z h s "java/lang/String" "coder" "B" (.int (0 : Int32)) := S_s.2.2.1
  have Vt1 : Arv Z h t kb .byte (Int32.ofNat cs.length) (cs.map own_f) (.int (0 : Int32)) := S_s.2.2.2.1
  refine X.aload_n i4_0 rfl rfl ?_
  refine X.aload_n i4_1 rfl rfl ?_
  refine X.callP hl (argsL := [(.ref s)]) (a := sb) i4_2 (c_infl hX X.old sb s F_c S_s.1 Fc1) E_sb (hw _ wd_80) (hw _ wd_81) (selP (by decide) (hw _ wd_83) (hw _ wd_81) (hw _ wd_82)) (hw _ wd_82) (hw _ wd_39) (hw _ wd_84) (by decide) sf_nil pd1 rfl rfl rfl (W := 0) rfl (by decide) (by decide) (k' := 0) rfl (n' := 0) rfl (by decide) (by decide) fun vm2 T2 h2 v2 X2 r2 Q2 => ?_
  obtain ⟨rfl, rfl⟩ := Q2
  show Go _ _ _ _ _ _ _ _ _ _ []
  refine X2.aload_n i4_5 rfl rfl ?_
  refine X2.aload_n i4_6 rfl rfl ?_
  refine X2.getfield i4_7 (hw _ wd_43) Via.refl F_v fun T3 X3 => ?_
  refine X3.iload_n i4_10 rfl ?_
  refine X3.aload_n i4_11 rfl rfl ?_
  refine X3.getfield i4_12 (hw _ wd_45) Via.refl F_c fun T4 X4 => ?_
  have Sf6 := (r2).safe (V_ar).lt sf_ar
  refine X4.callV hl (argsL := [(.ref ar), (.int (Int32.ofNat bs.length)), (.int (0 : Int32))]) (a := s) i4_15 (c_gb34 hX X4.old s t kb cs ar ka bs S_s V_ar g_ar lc) S_s.1 (hw _ wd_86) (hw _ wd_87) (hw _ wd_89) (nfSel X4.zw (hw _ wd_89)) (hw _ wd_88) (hw _ wd_2) (hw _ wd_90) (by decide) (sf_cons ⟨Sf6, (Nat.lt_of_lt_of_le (V_ar).lt (Nat.le_refl _))⟩ sf_nil) pd2 rfl rfl rfl (W := 0) rfl (by decide) (by decide) (k' := 0) rfl (n' := 0) rfl (by decide) (by decide) fun vm5 T5 h5 v5 X5 r5 Q5 => ?_
  obtain ⟨rfl, q5_0, q5_1, q5_2⟩ := Q5
  show Go _ _ _ _ _ _ _ _ _ _ []
  exact X5.ret i4_18 rfl (by decide) (by decide) (fun sf hsf => ⟨rfl, ((Keep.refl _ [ar]).trans q5_0 (allS (Or.inl (List.mem_of_getElem? (i := 0) rfl)) all0)), q5_1, hsf _ q5_2⟩)
theorem c_aaL (hX : own_Ctx l Z a0 zc fm us ss) (hO : Old Z n0 h) (sb : Addr) (s : Addr) (t : Addr) (kb : ClassId) (cs : List Int32) (ar : Addr) (ka : ClassId) (bs : List Int32) (S_s : Str Z h s t kb cs) (g_sb : n0 ≤ sb) (E_sb : Exa Z h sb "java/lang/StringBuilder") (F_v : Fld Z h sb "java/lang/AbstractStringBuilder" "value" "[B" (.ref ar)) (F_c : Fld Z h sb "java/lang/AbstractStringBuilder" "coder" "B" (.int (0 : Int32))) (F_n : Fld Z h sb "java/lang/AbstractStringBuilder" "count" "I" (.int (Int32.ofNat bs.length))) (V_ar : Arv Z h ar ka .byte (16 : Int32) (bs.map own_f) (.int (0 : Int32))) (gq1 : 16 < (bs ++ cs).length) (gq2 : (bs ++ cs).length ≤ 22) (hb : bs.length ≤ 3) (nes : sb ≠ ar) (ne1 : s ≠ sb) (ne2 : t ≠ sb) :
    Con [] false l Z own_EL n0 [] (⟨"java/lang/AbstractStringBuilder", "append", "(Ljava/lang/String;)Ljava/lang/AbstractStringBuilder;"⟩ : MethodName) B5 3 (some (.object "java/lang/AbstractStringBuilder")) ({ frames := 4, cells := 1, slots := 34, locals := 62 } : Room) #[(.ref sb), (.ref s)] h (fun v h' sf => ∃ (r : Addr) (kr : ClassId), v = some (.ref sb) ∧ Keep h h' [sb] ∧ h.size ≤ r ∧ Fld Z h' sb "java/lang/AbstractStringBuilder" "value" "[B" (.ref r) ∧ Fld Z h' sb "java/lang/AbstractStringBuilder" "coder" "B" (.int (0 : Int32)) ∧ Fld Z h' sb "java/lang/AbstractStringBuilder" "count" "I" (.int (Int32.ofNat (bs ++ cs).length)) ∧ Arv Z h' r kr .byte (34 : Int32) ((bs ++ cs).map own_f) (.int (0 : Int32)) ∧ sf r) := by
  obtain ⟨hw, hEL, hcs, hcz, hfm, hfr, hst, hKn, hus, hss, had, hhi, hlo⟩ := id hX
  refine Con.intro (Ls := #[.val (.ref sb), .val (.ref s), .unset]) pn5 hEL hO (fun m => rfl) fun C vm T hl X hs => ?_
  have X : On C ({ frames := 4, cells := 1, slots := 34, locals := 62 } : Room) "java/lang/AbstractStringBuilder" B5 3 (some (.object "java/lang/AbstractStringBuilder")) "append" false Z a0 own_EL n0 vm T h 0 0 := X
  have hll : bs.length + cs.length ≤ 22 := by rw [← List.length_append]; exact gq2
  refine X.aload_n i5_0 rfl rfl ?_
  refine X.nonnullY i5_1 j1_8 ?_
  refine X.aload_n i5_9 rfl rfl ?_
  refine own_strLen X hw i5_10 (hw _ wd_57) S_s (by omega) hcs hcz rfl (W := 0) rfl (by decide) (by decide) (by decide) (by decide) rfl fun T1 X1 => ?_
  refine X1.istore_n i5_13 (Ls' := #[.val (.ref sb), .val (.ref s), .val (.int (Int32.ofNat cs.length))]) rfl ?_
  refine X1.aload_n i5_14 rfl rfl ?_
  refine X1.aload_n i5_15 rfl rfl ?_
  refine X1.getfield i5_16 (hw _ wd_68) Via.refl F_n fun T2 X2 => ?_
  refine X2.iload_n i5_19 rfl ?_
  refine X2.iadd i5_20 (z := (Int32.ofNat (bs ++ cs).length)) (own_addl bs cs) ?_
  refine X2.callP hl (argsL := [(.int (Int32.ofNat (bs ++ cs).length))]) (a := sb) i5_21 (c_egL hX X2.old sb ar ka (bs.map own_f) (bs ++ cs).length (Int32.ofNat bs.length) E_sb g_sb F_v F_c V_ar F_n (by rw [List.length_map]; omega) nes gq1 gq2) E_sb (hw _ wd_70) (hw _ wd_71) (selP (by decide) (hw _ wd_73) (hw _ wd_71) (hw _ wd_72)) (hw _ wd_72) (hw _ wd_39) (hw _ wd_74) (by decide) sf_nil pd3 rfl rfl rfl (W := 0) rfl (by decide) (by decide) (k' := 1) rfl (n' := 34) rfl (by decide) (by decide) fun vm3 T3 h3 v3 X3 r3 Q3 => ?_
  obtain ⟨r_3, kr_3, rfl, q3_0, q3_1, q3_2, q3_3, q3_4, q3_5, q3_6⟩ := Q3
  have g4 := Nat.le_trans X.n0le q3_1
  show Go _ _ _ _ _ _ _ _ _ _ []
  refine X3.aload_n i5_24 rfl rfl ?_
  refine X3.aload_n i5_25 rfl rfl ?_
  refine X3.getfield i5_26 (hw _ wd_68) Via.refl q3_4 fun T5 X5 => ?_
  refine X5.aload_n i5_29 rfl rfl ?_
  have S6 := (S_s.keep q3_0 (ninS ne1 nin0) (ninS ne2 nin0))
  have E7 := (E_sb.keep q3_0)
  refine X5.callP hl (argsL := [(.int (Int32.ofNat bs.length)), (.ref s)]) (a := sb) i5_30 (c_ps34 hX X5.old sb s t kb cs r_3 kr_3 bs S6 E7 q3_2 q3_3 q3_5 g4 (Nat.le_trans gq2 (by decide))) E7 (hw _ wd_75) (hw _ wd_76) (selP (by decide) (hw _ wd_78) (hw _ wd_76) (hw _ wd_77)) (hw _ wd_77) (hw _ wd_39) (hw _ wd_79) (by decide) (sf_cons ⟨q3_6, (q3_5).lt⟩ sf_nil) pd4 rfl rfl rfl (W := 0) rfl (by decide) (by decide) (k' := 1) rfl (n' := 34) rfl (by decide) (by decide) fun vm8 T8 h8 v8 X8 r8 Q8 => ?_
  obtain ⟨rfl, q8_0, q8_1, q8_2⟩ := Q8
  show Go _ _ _ _ _ _ _ _ _ _ []
  refine X8.aload_n i5_33 rfl rfl ?_
  refine X8.dup i5_34 rfl ?_
  have F9 := (q3_4.keep q8_0 (ninS (Nat.ne_of_lt (Nat.lt_of_lt_of_le (F_v).lt q3_1)) nin0))
  refine X8.getfield i5_35 (hw _ wd_68) Via.refl F9 fun T10 X10 => ?_
  refine X10.iload_n i5_38 rfl ?_
  refine X10.iadd i5_39 (z := (Int32.ofNat (bs ++ cs).length)) (own_addl bs cs) ?_
  have E11 := (E7.keep q8_0)
  refine X10.putfield i5_40 (hw _ wd_68) Via.refl F9 E11 (Or.inl (hw _ wd_69)) (hw _ wd_30) (ty := .int) (by decide) rfl rfl g_sb (Safe.exa X10.zw.alike E11 (by decide) (by decide)) fun T12 h12 X12 W12 => ?_
  refine X12.aload_n i5_43 rfl rfl ?_
  have F13 := ((q3_2.keep q8_0 (ninS (Nat.ne_of_lt (Nat.lt_of_lt_of_le (F_v).lt q3_1)) nin0)).other W12 (Or.inr (slot_ne (Or.inl (hw _ wd_44)) (Or.inl (hw _ wd_69)) (by decide) (t := (.array .byte)) (t' := .int) (by decide) (by decide))))
  have F14 := ((q3_3.keep q8_0 (ninS (Nat.ne_of_lt (Nat.lt_of_lt_of_le (F_v).lt q3_1)) nin0)).other W12 (Or.inr (slot_ne (Or.inl (hw _ wd_46)) (Or.inl (hw _ wd_69)) (by decide) (t := .byte) (t' := .int) (by decide) (by decide))))
  have V15 := (q8_1.other W12 (Nat.ne_of_gt (Nat.lt_of_lt_of_le (F_v).lt q3_1)))
  have Sf16 := ((CHr.wr W12 (Safe.exa X10.zw.alike E11 (by decide) (by decide)) X10.chv)).safe (q8_1).lt q8_2
  exact X12.areturn i5_44 rfl rfl rfl (by decide) (by decide) (fun sf hsf => ⟨r_3, kr_3, rfl, ((((Keep.refl _ [sb]).trans q3_0 (allS (Or.inl (List.mem_of_getElem? (i := 0) rfl)) all0)).trans q8_0 (allS (Or.inr q3_1) all0)).wr W12 (Or.inl (List.mem_of_getElem? (i := 0) rfl))), q3_1, F13, F14, (F9.same W12), V15, hsf _ Sf16⟩)
theorem c_apL (hX : own_Ctx l Z a0 zc fm us ss) (hO : Old Z n0 h) (sb : Addr) (s : Addr) (t : Addr) (kb : ClassId) (cs : List Int32) (ar : Addr) (ka : ClassId) (bs : List Int32) (S_s : Str Z h s t kb cs) (g_sb : n0 ≤ sb) (E_sb : Exa Z h sb "java/lang/StringBuilder") (F_v : Fld Z h sb "java/lang/AbstractStringBuilder" "value" "[B" (.ref ar)) (F_c : Fld Z h sb "java/lang/AbstractStringBuilder" "coder" "B" (.int (0 : Int32))) (F_n : Fld Z h sb "java/lang/AbstractStringBuilder" "count" "I" (.int (Int32.ofNat bs.length))) (V_ar : Arv Z h ar ka .byte (16 : Int32) (bs.map own_f) (.int (0 : Int32))) (gq1 : 16 < (bs ++ cs).length) (gq2 : (bs ++ cs).length ≤ 22) (hb : bs.length ≤ 3) (nes : sb ≠ ar) (ne1 : s ≠ sb) (ne2 : t ≠ sb) :
    Con [] false l Z own_EL n0 [] (⟨"java/lang/StringBuilder", "append", "(Ljava/lang/String;)Ljava/lang/StringBuilder;"⟩ : MethodName) B6 2 (some (.object "java/lang/StringBuilder")) ({ frames := 5, cells := 1, slots := 34, locals := 76 } : Room) #[(.ref sb), (.ref s)] h (fun v h' sf => ∃ (r : Addr) (kr : ClassId), v = some (.ref sb) ∧ Keep h h' [sb] ∧ h.size ≤ r ∧ Fld Z h' sb "java/lang/AbstractStringBuilder" "value" "[B" (.ref r) ∧ Fld Z h' sb "java/lang/AbstractStringBuilder" "coder" "B" (.int (0 : Int32)) ∧ Fld Z h' sb "java/lang/AbstractStringBuilder" "count" "I" (.int (Int32.ofNat (bs ++ cs).length)) ∧ Arv Z h' r kr .byte (34 : Int32) ((bs ++ cs).map own_f) (.int (0 : Int32)) ∧ sf r) := by
  obtain ⟨hw, hEL, hcs, hcz, hfm, hfr, hst, hKn, hus, hss, had, hhi, hlo⟩ := id hX
  refine Con.intro (Ls := #[.val (.ref sb), .val (.ref s)]) pn6 hEL hO (fun m => rfl) fun C vm T hl X hs => ?_
  have X : On C ({ frames := 5, cells := 1, slots := 34, locals := 76 } : Room) "java/lang/StringBuilder" B6 2 (some (.object "java/lang/StringBuilder")) "append" false Z a0 own_EL n0 vm T h 0 0 := X
  refine X.aload_n i6_0 rfl rfl ?_
  refine X.aload_n i6_1 rfl rfl ?_
  refine X.callU hl (argsL := [(.ref s)]) (a := sb) i6_2 (c_aaL hX X.old sb s t kb cs ar ka bs S_s g_sb E_sb F_v F_c F_n V_ar gq1 gq2 hb nes ne1 ne2) E_sb (hw _ wd_52) (sameOf (hw _ wd_55) (by decide) (hw _ wd_73) rfl) (hw _ wd_53) (hw _ wd_54) (by decide) (hw _ wd_39) (hw _ wd_56) sf_nil pd5 rfl rfl rfl (W := 0) rfl (by decide) (by decide) (k' := 1) rfl (n' := 34) rfl (by decide) (by decide) fun vm1 T1 h1 v1 X1 r1 Q1 => ?_
  obtain ⟨r_1, kr_1, rfl, q1_0, q1_1, q1_2, q1_3, q1_4, q1_5, q1_6⟩ := Q1
  have g2 := Nat.le_trans X.n0le q1_1
  show Go _ _ _ _ _ _ _ _ _ _ [(.ref sb)]
  refine X1.pop i6_5 rfl ?_
  refine X1.aload_n i6_6 rfl rfl ?_
  exact X1.areturn i6_7 rfl rfl rfl (by decide) (by decide) (fun sf hsf => ⟨r_1, kr_1, rfl, ((Keep.refl _ [sb]).trans q1_0 (allS (Or.inl (List.mem_of_getElem? (i := 0) rfl)) all0)), q1_1, q1_2, q1_3, q1_4, q1_5, hsf _ q1_6⟩)
theorem c_cdW (hX : own_Ctx l Z a0 zc fm us ss) (hO : Old Z n0 h) (s : Addr) (F_c : Fld Z h s "java/lang/String" "coder" "B" (.int (1 : Int32))) :
    Con [] false l Z own_EL n0 [] (⟨"java/lang/String", "coder", "()B"⟩ : MethodName) B0 1 (some .byte) ({ frames := 0, cells := 0, slots := 0, locals := 0 } : Room) #[(.ref s)] h (fun v h' sf => v = some (.int (1 : Int32)) ∧ h = h') := by
  obtain ⟨hw, hEL, hcs, hcz, hfm, hfr, hst, hKn, hus, hss, had, hhi, hlo⟩ := id hX
  refine Con.intro (Ls := #[.val (.ref s)]) pn0 hEL hO (fun m => rfl) fun C vm T hl X hs => ?_
  have X : On C ({ frames := 0, cells := 0, slots := 0, locals := 0 } : Room) "java/lang/String" B0 1 (some .byte) "coder" false Z a0 own_EL n0 vm T h 0 0 := X
  refine X.getstatic i0_0 (hw _ wd_67) Via.refl (hcs.ext X.ext0) fun T1 X1 => ?_
  refine X1.ifN i0_3 (XT.i0_eq_f hcz) ?_
  refine X1.aload_n i0_6 rfl rfl ?_
  refine X1.getfield i0_7 (hw _ wd_21) Via.refl F_c fun T2 X2 => ?_
  refine X2.goto i0_10 j10_4 ?_
  exact X2.ireturn i0_14 (t := .byte) rfl (by decide) rfl (by decide) (by decide) (fun sf hsf => ⟨rfl, rfl⟩)
theorem c_wlen (hX : own_Ctx l Z a0 zc fm us ss) (hO : Old Z n0 h) (s : Addr) (t : Addr) (kb : ClassId) (cs : List Int32) (E_s : Exa Z h s "java/lang/String") (F_sv : Fld Z h s "java/lang/String" "value" "[B" (.ref t)) (F_sc : Fld Z h s "java/lang/String" "coder" "B" (.int (1 : Int32))) (V_t : Arv Z h t kb .byte (Int32.ofNat (2 * cs.length)) (own_wb cs) (.int (0 : Int32))) (hle : cs.length ≤ 16) :
    Con [] false l Z own_EL n0 [] (⟨"java/lang/String", "length", "()I"⟩ : MethodName) B35 1 (some .int) ({ frames := 1, cells := 0, slots := 0, locals := 13 } : Room) #[(.ref s)] h (fun v h' sf => v = some (.int (Int32.ofNat cs.length)) ∧ h = h') := by
  obtain ⟨hw, hEL, hcs, hcz, hfm, hfr, hst, hKn, hus, hss, had, hhi, hlo⟩ := id hX
  refine Con.intro (Ls := #[.val (.ref s)]) pn35 hEL hO (fun m => rfl) fun C vm T hl X hs => ?_
  have X : On C ({ frames := 1, cells := 0, slots := 0, locals := 13 } : Room) "java/lang/String" B35 1 (some .int) "length" false Z a0 own_EL n0 vm T h 0 0 := X
  refine X.aload_n i35_0 rfl rfl ?_
  refine X.getfield i35_1 (hw _ wd_20) Via.refl F_sv fun T1 X1 => ?_
  refine X1.arraylength i35_4 V_t ?_
  refine X1.aload_n i35_5 rfl rfl ?_
  refine X1.callV hl (argsL := []) (a := s) i35_6 (c_cdW hX X1.old s F_sc) E_s (hw _ wd_62) (hw _ wd_63) (hw _ wd_65) (nfSel X1.zw (hw _ wd_65)) (hw _ wd_64) (hw _ wd_2) (hw _ wd_66) (by decide) sf_nil pd0 rfl rfl rfl (W := 1) rfl (by decide) (by decide) (k' := 0) rfl (n' := 0) rfl (by decide) (by decide) fun vm2 T2 h2 v2 X2 r2 Q2 => ?_
  obtain ⟨rfl, rfl⟩ := Q2
  show Go _ _ _ _ _ _ _ _ _ _ [(.int (1 : Int32)), (.int (Int32.ofNat (2 * cs.length)))]
  refine X2.ishr i35_9 (z := (Int32.ofNat cs.length)) (StrChars.shr1 (by omega)) ?_
  exact X2.ireturn i35_10 (t := .int) rfl (by decide) rfl (by decide) (by decide) (fun sf hsf => ⟨rfl, rfl⟩)
theorem c_il0 (hX : own_Ctx l Z a0 zc fm us ss) (hO : Old Z n0 h) (sb : Addr) (F_c : Fld Z h sb "java/lang/AbstractStringBuilder" "coder" "B" (.int (1 : Int32))) :
    Con [] false l Z own_EL n0 [] (⟨"java/lang/AbstractStringBuilder", "isLatin1", "()Z"⟩ : MethodName) B36 1 (some .boolean) ({ frames := 0, cells := 0, slots := 0, locals := 0 } : Room) #[(.ref sb)] h (fun v h' sf => v = some (.int (0 : Int32)) ∧ h = h') := by
  obtain ⟨hw, hEL, hcs, hcz, hfm, hfr, hst, hKn, hus, hss, had, hhi, hlo⟩ := id hX
  refine Con.intro (Ls := #[.val (.ref sb)]) pn36 hEL hO (fun m => rfl) fun C vm T hl X hs => ?_
  have X : On C ({ frames := 0, cells := 0, slots := 0, locals := 0 } : Room) "java/lang/AbstractStringBuilder" B36 1 (some .boolean) "isLatin1" false Z a0 own_EL n0 vm T h 0 0 := X
  refine X.getstatic i36_0 (hw _ wd_42) Via.refl (hcs.ext X.ext0) fun T1 X1 => ?_
  refine X1.ifN i36_3 (XT.i0_eq_f hcz) ?_
  refine X1.aload_n i36_6 rfl rfl ?_
  refine X1.getfield i36_7 (hw _ wd_45) Via.refl F_c fun T2 X2 => ?_
  refine X2.ifY i36_10 j10_7 (by decide) ?_
  refine X2.iconst i36_17 (z := (0 : Int32)) rfl ?_
  exact X2.ireturn i36_18 (t := .boolean) rfl (by decide) rfl (by decide) (by decide) (fun sf hsf => ⟨rfl, rfl⟩)
theorem c_il (hX : own_Ctx l Z a0 zc fm us ss) (hO : Old Z n0 h) (sb : Addr) (F_c : Fld Z h sb "java/lang/AbstractStringBuilder" "coder" "B" (.int (0 : Int32))) :
    Con [] false l Z own_EL n0 [] (⟨"java/lang/AbstractStringBuilder", "isLatin1", "()Z"⟩ : MethodName) B36 1 (some .boolean) ({ frames := 0, cells := 0, slots := 0, locals := 0 } : Room) #[(.ref sb)] h (fun v h' sf => v = some (.int (1 : Int32)) ∧ h = h') := by
  obtain ⟨hw, hEL, hcs, hcz, hfm, hfr, hst, hKn, hus, hss, had, hhi, hlo⟩ := id hX
  refine Con.intro (Ls := #[.val (.ref sb)]) pn36 hEL hO (fun m => rfl) fun C vm T hl X hs => ?_
  have X : On C ({ frames := 0, cells := 0, slots := 0, locals := 0 } : Room) "java/lang/AbstractStringBuilder" B36 1 (some .boolean) "isLatin1" false Z a0 own_EL n0 vm T h 0 0 := X
  refine X.getstatic i36_0 (hw _ wd_42) Via.refl (hcs.ext X.ext0) fun T1 X1 => ?_
  refine X1.ifN i36_3 (XT.i0_eq_f hcz) ?_
  refine X1.aload_n i36_6 rfl rfl ?_
  refine X1.getfield i36_7 (hw _ wd_45) Via.refl F_c fun T2 X2 => ?_
  refine X2.ifN i36_10 (by decide) ?_
  refine X2.iconst i36_13 (z := (1 : Int32)) rfl ?_
  refine X2.goto i36_14 j14_4 ?_
  exact X2.ireturn i36_18 (t := .boolean) rfl (by decide) rfl (by decide) (by decide) (fun sf hsf => ⟨rfl, rfl⟩)
theorem c_if0 (hX : own_Ctx l Z a0 zc fm us ss) (hO : Old Z n0 h) (sb : Addr) (E_sb : Exa Z h sb "java/lang/StringBuilder") (F_c : Fld Z h sb "java/lang/AbstractStringBuilder" "coder" "B" (.int (1 : Int32))) :
    Con [] false l Z own_EL n0 [] (⟨"java/lang/AbstractStringBuilder", "inflate", "()V"⟩ : MethodName) B37 2 none ({ frames := 1, cells := 0, slots := 0, locals := 12 } : Room) #[(.ref sb)] h (fun v h' sf => v = none ∧ h = h') := by
  obtain ⟨hw, hEL, hcs, hcz, hfm, hfr, hst, hKn, hus, hss, had, hhi, hlo⟩ := id hX
  refine Con.intro (Ls := #[.val (.ref sb), .unset]) pn37 hEL hO (fun m => rfl) fun C vm T hl X hs => ?_
  have X : On C ({ frames := 1, cells := 0, slots := 0, locals := 12 } : Room) "java/lang/AbstractStringBuilder" B37 2 none "inflate" false Z a0 own_EL n0 vm T h 0 0 := X
  refine X.aload_n i37_0 rfl rfl ?_
  refine X.callV hl (argsL := []) (a := sb) i37_1 (c_il0 hX X.old sb F_c) E_sb (hw _ wd_277) (hw _ wd_145) (hw _ wd_147) (nfSel X.zw (hw _ wd_147)) (hw _ wd_146) (hw _ wd_39) (hw _ wd_148) (by decide) sf_nil pd24 rfl rfl rfl (W := 0) rfl (by decide) (by decide) (k' := 0) rfl (n' := 0) rfl (by decide) (by decide) fun vm1 T1 h1 v1 X1 r1 Q1 => ?_
  obtain ⟨rfl, rfl⟩ := Q1
  show Go _ _ _ _ _ _ _ _ _ _ [(.int (0 : Int32))]
  refine X1.ifN i37_4 (by decide) ?_
  exact X1.ret i37_7 rfl (by decide) (by decide) (fun sf hsf => ⟨rfl, rfl⟩)
theorem c_if1 (hX : own_Ctx l Z a0 zc fm us ss) (hO : Old Z n0 h) (sb : Addr) (ar : Addr) (ka : ClassId) (E_sb : Exa Z h sb "java/lang/StringBuilder") (g_sb : n0 ≤ sb) (F_v : Fld Z h sb "java/lang/AbstractStringBuilder" "value" "[B" (.ref ar)) (F_c : Fld Z h sb "java/lang/AbstractStringBuilder" "coder" "B" (.int (0 : Int32))) (F_n : Fld Z h sb "java/lang/AbstractStringBuilder" "count" "I" (.int (Int32.ofNat ([] : List Int32).length))) (F_m : Fld Z h sb "java/lang/AbstractStringBuilder" "maybeLatin1" "Z" (.int (0 : Int32))) (V_ar : Arv Z h ar ka .byte (16 : Int32) (([] : List Int32).map own_f) (.int (0 : Int32))) (nes : sb ≠ ar) :
    Con [] false l Z own_EL n0 [] (⟨"java/lang/AbstractStringBuilder", "inflate", "()V"⟩ : MethodName) B37 2 none ({ frames := 5, cells := 1, slots := 44, locals := 76 } : Room) #[(.ref sb)] h (fun v h' sf => ∃ (r : Addr) (kr : ClassId), v = none ∧ Keep h h' [sb] ∧ h.size ≤ r ∧ Fld Z h' sb "java/lang/AbstractStringBuilder" "value" "[B" (.ref r) ∧ Fld Z h' sb "java/lang/AbstractStringBuilder" "coder" "B" (.int (1 : Int32)) ∧ Fld Z h' sb "java/lang/AbstractStringBuilder" "count" "I" (.int (Int32.ofNat ([] : List Int32).length)) ∧ Fld Z h' sb "java/lang/AbstractStringBuilder" "maybeLatin1" "Z" (.int (0 : Int32)) ∧ Arv Z h' r kr .byte (Int32.ofNat (2 * 16)) (own_wb ([] : List Int32)) (.int (0 : Int32)) ∧ sf r) := by
  obtain ⟨hw, hEL, hcs, hcz, hfm, hfr, hst, hKn, hus, hss, had, hhi, hlo⟩ := id hX
  refine Con.intro (Ls := #[.val (.ref sb), .unset]) pn37 hEL hO (fun m => rfl) fun C vm T hl X hs => ?_
  have X : On C ({ frames := 5, cells := 1, slots := 44, locals := 76 } : Room) "java/lang/AbstractStringBuilder" B37 2 none "inflate" false Z a0 own_EL n0 vm T h 0 0 := X
  refine X.aload_n i37_0 rfl rfl ?_
  refine X.callV hl (argsL := []) (a := sb) i37_1 (c_il hX X.old sb F_c) E_sb (hw _ wd_277) (hw _ wd_145) (hw _ wd_147) (nfSel X.zw (hw _ wd_147)) (hw _ wd_146) (hw _ wd_39) (hw _ wd_148) (by decide) sf_nil pd24 rfl rfl rfl (W := 0) rfl (by decide) (by decide) (k' := 0) rfl (n' := 0) rfl (by decide) (by decide) fun vm1 T1 h1 v1 X1 r1 Q1 => ?_
  obtain ⟨rfl, rfl⟩ := Q1
  show Go _ _ _ _ _ _ _ _ _ _ [(.int (1 : Int32))]
  refine X1.ifY i37_4 j4_4 (by decide) ?_
  refine X1.aload_n i37_8 rfl rfl ?_
  refine X1.getfield i37_9 (hw _ wd_43) Via.refl F_v fun T2 X2 => ?_
  refine X2.arraylength i37_12 V_ar ?_
  refine X2.callS hl (argsL := [(.int (16 : Int32))]) i37_13 (c_nbf hX X2.old 16 (by decide)) (hw _ wd_278) (hw _ wd_257) (hw _ wd_245) (hw _ wd_258) (by decide) sf_nil pd11 rfl rfl rfl (W := 0) rfl (by decide) (by decide) (k' := 1) rfl (n' := 44) rfl (by decide) (by decide) fun vm3 T3 h3 v3 X3 r3 Q3 => ?_
  obtain ⟨r_3, kr_3, rfl, q3_0, q3_1, q3_2, q3_3⟩ := Q3
  have g4 := Nat.le_trans X1.n0le q3_1
  show Go _ _ _ _ _ _ _ _ _ _ [(.ref r_3)]
  refine X3.astore_n i37_16 rfl (Ls' := #[.val (.ref sb), .val (.ref r_3)]) rfl ?_
  refine X3.aload_n i37_17 rfl rfl ?_
  have F5 := (F_v.ext q3_0)
  refine X3.getfield i37_18 (hw _ wd_43) Via.refl F5 fun T6 X6 => ?_
  refine X6.iconst i37_21 (z := (0 : Int32)) rfl ?_
  refine X6.aload_n i37_22 rfl rfl ?_
  refine X6.iconst i37_23 (z := (0 : Int32)) rfl ?_
  refine X6.aload_n i37_24 rfl rfl ?_
  have F7 := (F_n.ext q3_0)
  refine X6.getfield i37_25 (hw _ wd_68) Via.refl F7 fun T8 X8 => ?_
  have V9 := (V_ar.ext q3_0)
  refine X8.callS hl (argsL := [(.ref ar), (.int (0 : Int32)), (.ref r_3), (.int (0 : Int32)), (.int (Int32.ofNat ([] : List Int32).length))]) i37_28 (c_linf hX X8.old ar ka (16 : Int32) ([] : List Int32) r_3 kr_3 16 ([] : List Int32) V9 q3_2 g4 (fun i hi => absurd hi (Nat.not_lt_zero i)) (by decide) (by decide) own_all0 (Nat.ne_of_lt (Nat.lt_of_lt_of_le (Nat.lt_of_lt_of_le (V_ar).lt (Nat.le_refl _)) q3_1))) (hw _ wd_279) (hw _ wd_280) (hw _ wd_235) (hw _ wd_281) (by decide) (sf_cons ⟨q3_3, (q3_2).lt⟩ sf_nil) pd21 rfl rfl rfl (W := 0) rfl (by decide) (by decide) (k' := 1) rfl (n' := 44) rfl (by decide) (by decide) fun vm10 T10 h10 v10 X10 r10 Q10 => ?_
  obtain ⟨rfl, q10_0, q10_1, q10_2⟩ := Q10
  show Go _ _ _ _ _ _ _ _ _ _ []
  refine X10.aload_n i37_31 rfl rfl ?_
  refine X10.aload_n i37_32 rfl rfl ?_
  have F11 := (F5.keep q10_0 (ninS (Nat.ne_of_lt (Nat.lt_of_lt_of_le (Nat.lt_of_lt_of_le (F_v).lt (Nat.le_refl _)) q3_1)) nin0))
  have E12 := ((E_sb.ext q3_0).keep q10_0)
  refine X10.putfield i37_33 (hw _ wd_43) Via.refl F11 E12 (Or.inl (hw _ wd_44)) (hw _ wd_30) (ty := (.array .byte)) (by decide) rfl rfl g_sb (Safe.exa X10.zw.alike E12 (by decide) (by decide)) fun T13 h13 X13 W13 => ?_
  refine X13.aload_n i37_36 rfl rfl ?_
  refine X13.iconst i37_37 (z := (1 : Int32)) rfl ?_
  have F14 := (((F_c.ext q3_0).keep q10_0 (ninS (Nat.ne_of_lt (Nat.lt_of_lt_of_le (Nat.lt_of_lt_of_le (F_v).lt (Nat.le_refl _)) q3_1)) nin0)).other W13 (Or.inr (slot_ne (Or.inl (hw _ wd_46)) (Or.inl (hw _ wd_44)) (by decide) (t := .byte) (t' := (.array .byte)) (by decide) (by decide))))
  have E15 := (E12.wr W13)
  refine X13.putfield i37_38 (hw _ wd_45) Via.refl F14 E15 (Or.inl (hw _ wd_46)) (hw _ wd_30) (ty := .byte) (by decide) rfl rfl g_sb (Safe.exa X13.zw.alike E15 (by decide) (by decide)) fun T16 h16 X16 W16 => ?_
  have F17 := ((F11.same W13).other W16 (Or.inr (slot_ne (Or.inl (hw _ wd_44)) (Or.inl (hw _ wd_46)) (by decide) (t := (.array .byte)) (t' := .byte) (by decide) (by decide))))
  have F18 := (((F7.keep q10_0 (ninS (Nat.ne_of_lt (Nat.lt_of_lt_of_le (Nat.lt_of_lt_of_le (F_v).lt (Nat.le_refl _)) q3_1)) nin0)).other W13 (Or.inr (slot_ne (Or.inl (hw _ wd_69)) (Or.inl (hw _ wd_44)) (by decide) (t := .int) (t' := (.array .byte)) (by decide) (by decide)))).other W16 (Or.inr (slot_ne (Or.inl (hw _ wd_69)) (Or.inl (hw _ wd_46)) (by decide) (t := .int) (t' := .byte) (by decide) (by decide))))
  have F19 := ((((F_m.ext q3_0).keep q10_0 (ninS (Nat.ne_of_lt (Nat.lt_of_lt_of_le (Nat.lt_of_lt_of_le (F_v).lt (Nat.le_refl _)) q3_1)) nin0)).other W13 (Or.inr (slot_ne (Or.inl (hw _ wd_301)) (Or.inl (hw _ wd_44)) (by decide) (t := .boolean) (t' := (.array .byte)) (by decide) (by decide)))).other W16 (Or.inr (slot_ne (Or.inl (hw _ wd_301)) (Or.inl (hw _ wd_46)) (by decide) (t := .boolean) (t' := .byte) (by decide) (by decide))))
  have V20 := ((q10_1.other W13 (Nat.ne_of_gt (Nat.lt_of_lt_of_le (Nat.lt_of_lt_of_le (F_v).lt (Nat.le_refl _)) q3_1))).other W16 (Nat.ne_of_gt (Nat.lt_of_lt_of_le (Nat.lt_of_lt_of_le (F_v).lt (Nat.le_refl _)) q3_1)))
  have Sf21 := (((CHr.wr W13 (Safe.exa X10.zw.alike E12 (by decide) (by decide)) X10.chv)).trans (CHr.wr W16 (Safe.exa X13.zw.alike E15 (by decide) (by decide)) X13.chv)).safe (q10_1).lt q10_2
  exact X16.ret i37_41 rfl (by decide) (by decide) (fun sf hsf => ⟨r_3, kr_3, rfl, (((((Keep.refl _ [sb]).ext q3_0).trans q10_0 (allS (Or.inr (Nat.le_trans (Nat.le_refl _) q3_1)) all0)).wr W13 (Or.inl (List.mem_of_getElem? (i := 0) rfl))).wr W16 (Or.inl (List.mem_of_getElem? (i := 0) rfl))), (Nat.le_trans (Nat.le_refl _) q3_1), F17, (F14.same W16), F18, F19, V20, hsf _ Sf21⟩)
theorem c_in0 (hX : own_Ctx l Z a0 zc fm us ss) (hO : Old Z n0 h) (sb : Addr) (s : Addr) (E_sb : Exa Z h sb "java/lang/StringBuilder") (F_b : Fld Z h sb "java/lang/AbstractStringBuilder" "coder" "B" (.int (1 : Int32))) (E_s : Exa Z h s "java/lang/String") (F_c : Fld Z h s "java/lang/String" "coder" "B" (.int (0 : Int32))) :
    Con [] false l Z own_EL n0 [] (⟨"java/lang/AbstractStringBuilder", "inflateIfNeededFor", "(Ljava/lang/String;)V"⟩ : MethodName) B1 2 none ({ frames := 2, cells := 0, slots := 0, locals := 25 } : Room) #[(.ref sb), (.ref s)] h (fun v h' sf => v = none ∧ h = h') := by
  obtain ⟨hw, hEL, hcs, hcz, hfm, hfr, hst, hKn, hus, hss, had, hhi, hlo⟩ := id hX
  refine Con.intro (Ls := #[.val (.ref sb), .val (.ref s)]) pn1 hEL hO (fun m => rfl) fun C vm T hl X hs => ?_
  have X : On C ({ frames := 2, cells := 0, slots := 0, locals := 25 } : Room) "java/lang/AbstractStringBuilder" B1 2 none "inflateIfNeededFor" false Z a0 own_EL n0 vm T h 0 0 := X
  refine X.getstatic i1_0 (hw _ wd_42) Via.refl (hcs.ext X.ext0) fun T1 X1 => ?_
  refine X1.ifN i1_3 (XT.i0_eq_f hcz) ?_
  refine X1.aload_n i1_6 rfl rfl ?_
  refine X1.getfield i1_7 (hw _ wd_45) Via.refl F_b fun T2 X2 => ?_
  refine X2.aload_n i1_10 rfl rfl ?_
  refine X2.callV hl (argsL := []) (a := s) i1_11 (c_coder hX X2.old s F_c) E_s (hw _ wd_85) (hw _ wd_63) (hw _ wd_65) (nfSel X2.zw (hw _ wd_65)) (hw _ wd_64) (hw _ wd_2) (hw _ wd_66) (by decide) sf_nil pd0 rfl rfl rfl (W := 1) rfl (by decide) (by decide) (k' := 0) rfl (n' := 0) rfl (by decide) (by decide) fun vm3 T3 h3 v3 X3 r3 Q3 => ?_
  obtain ⟨rfl, rfl⟩ := Q3
  show Go _ _ _ _ _ _ _ _ _ _ [(.int (0 : Int32)), (.int (1 : Int32))]
  refine X3.icN i1_14 (by decide) ?_
  refine X3.aload_n i1_17 rfl rfl ?_
  refine X3.callP hl (argsL := []) (a := sb) i1_18 (c_if0 hX X3.old sb E_sb F_b) E_sb (hw _ wd_272) (hw _ wd_273) (selP (by decide) (hw _ wd_275) (hw _ wd_273) (hw _ wd_274)) (hw _ wd_274) (hw _ wd_39) (hw _ wd_276) (by decide) sf_nil pd25 rfl rfl rfl (W := 0) rfl (by decide) (by decide) (k' := 0) rfl (n' := 0) rfl (by decide) (by decide) fun vm4 T4 h4 v4 X4 r4 Q4 => ?_
  obtain ⟨rfl, rfl⟩ := Q4
  show Go _ _ _ _ _ _ _ _ _ _ []
  exact X4.ret i1_21 rfl (by decide) (by decide) (fun sf hsf => ⟨rfl, rfl⟩)
theorem c_in1 (hX : own_Ctx l Z a0 zc fm us ss) (hO : Old Z n0 h) (sb : Addr) (ar : Addr) (ka : ClassId) (s : Addr) (E_sb : Exa Z h sb "java/lang/StringBuilder") (g_sb : n0 ≤ sb) (F_v : Fld Z h sb "java/lang/AbstractStringBuilder" "value" "[B" (.ref ar)) (F_c : Fld Z h sb "java/lang/AbstractStringBuilder" "coder" "B" (.int (0 : Int32))) (F_n : Fld Z h sb "java/lang/AbstractStringBuilder" "count" "I" (.int (Int32.ofNat ([] : List Int32).length))) (F_m : Fld Z h sb "java/lang/AbstractStringBuilder" "maybeLatin1" "Z" (.int (0 : Int32))) (V_ar : Arv Z h ar ka .byte (16 : Int32) (([] : List Int32).map own_f) (.int (0 : Int32))) (nes : sb ≠ ar) (E_s : Exa Z h s "java/lang/String") (F_sc : Fld Z h s "java/lang/String" "coder" "B" (.int (1 : Int32))) :
    Con [] false l Z own_EL n0 [] (⟨"java/lang/AbstractStringBuilder", "inflateIfNeededFor", "(Ljava/lang/String;)V"⟩ : MethodName) B1 2 none ({ frames := 6, cells := 1, slots := 44, locals := 89 } : Room) #[(.ref sb), (.ref s)] h (fun v h' sf => ∃ (r : Addr) (kr : ClassId), v = none ∧ Keep h h' [sb] ∧ h.size ≤ r ∧ Fld Z h' sb "java/lang/AbstractStringBuilder" "value" "[B" (.ref r) ∧ Fld Z h' sb "java/lang/AbstractStringBuilder" "coder" "B" (.int (1 : Int32)) ∧ Fld Z h' sb "java/lang/AbstractStringBuilder" "count" "I" (.int (Int32.ofNat ([] : List Int32).length)) ∧ Fld Z h' sb "java/lang/AbstractStringBuilder" "maybeLatin1" "Z" (.int (0 : Int32)) ∧ Arv Z h' r kr .byte (Int32.ofNat (2 * 16)) (own_wb ([] : List Int32)) (.int (0 : Int32)) ∧ sf r) := by
  obtain ⟨hw, hEL, hcs, hcz, hfm, hfr, hst, hKn, hus, hss, had, hhi, hlo⟩ := id hX
  refine Con.intro (Ls := #[.val (.ref sb), .val (.ref s)]) pn1 hEL hO (fun m => rfl) fun C vm T hl X hs => ?_
  have X : On C ({ frames := 6, cells := 1, slots := 44, locals := 89 } : Room) "java/lang/AbstractStringBuilder" B1 2 none "inflateIfNeededFor" false Z a0 own_EL n0 vm T h 0 0 := X
  refine X.getstatic i1_0 (hw _ wd_42) Via.refl (hcs.ext X.ext0) fun T1 X1 => ?_
  refine X1.ifN i1_3 (XT.i0_eq_f hcz) ?_
  refine X1.aload_n i1_6 rfl rfl ?_
  refine X1.getfield i1_7 (hw _ wd_45) Via.refl F_c fun T2 X2 => ?_
  refine X2.aload_n i1_10 rfl rfl ?_
  refine X2.callV hl (argsL := []) (a := s) i1_11 (c_cdW hX X2.old s F_sc) E_s (hw _ wd_85) (hw _ wd_63) (hw _ wd_65) (nfSel X2.zw (hw _ wd_65)) (hw _ wd_64) (hw _ wd_2) (hw _ wd_66) (by decide) sf_nil pd0 rfl rfl rfl (W := 1) rfl (by decide) (by decide) (k' := 0) rfl (n' := 0) rfl (by decide) (by decide) fun vm3 T3 h3 v3 X3 r3 Q3 => ?_
  obtain ⟨rfl, rfl⟩ := Q3
  show Go _ _ _ _ _ _ _ _ _ _ [(.int (1 : Int32)), (.int (0 : Int32))]
  refine X3.icN i1_14 (by decide) ?_
  refine X3.aload_n i1_17 rfl rfl ?_
  refine X3.callP hl (argsL := []) (a := sb) i1_18 (c_if1 hX X3.old sb ar ka E_sb g_sb F_v F_c F_n F_m V_ar nes) E_sb (hw _ wd_272) (hw _ wd_273) (selP (by decide) (hw _ wd_275) (hw _ wd_273) (hw _ wd_274)) (hw _ wd_274) (hw _ wd_39) (hw _ wd_276) (by decide) sf_nil pd25 rfl rfl rfl (W := 0) rfl (by decide) (by decide) (k' := 1) rfl (n' := 44) rfl (by decide) (by decide) fun vm4 T4 h4 v4 X4 r4 Q4 => ?_
  obtain ⟨r_4, kr_4, rfl, q4_0, q4_1, q4_2, q4_3, q4_4, q4_5, q4_6, q4_7⟩ := Q4
  have g5 := Nat.le_trans X3.n0le q4_1
  show Go _ _ _ _ _ _ _ _ _ _ []
  exact X4.ret i1_21 rfl (by decide) (by decide) (fun sf hsf => ⟨r_4, kr_4, rfl, ((Keep.refl _ [sb]).trans q4_0 (allS (Or.inl (List.mem_of_getElem? (i := 0) rfl)) all0)), (Nat.le_trans (Nat.le_refl _) q4_1), q4_2, q4_3, q4_4, q4_5, q4_6, hsf _ q4_7⟩)
theorem c_gbW (hX : own_Ctx l Z a0 zc fm us ss) (hO : Old Z n0 h) (s : Addr) (t : Addr) (kb : ClassId) (cs : List Int32) (ar : Addr) (ka : ClassId) (E_s : Exa Z h s "java/lang/String") (F_sv : Fld Z h s "java/lang/String" "value" "[B" (.ref t)) (F_sc : Fld Z h s "java/lang/String" "coder" "B" (.int (1 : Int32))) (V_t : Arv Z h t kb .byte (Int32.ofNat (2 * cs.length)) (own_wb cs) (.int (0 : Int32))) (V_ar : Arv Z h ar ka .byte (Int32.ofNat (2 * 16)) (own_wb ([] : List Int32)) (.int (0 : Int32))) (g_ar : n0 ≤ ar) (hle : cs.length ≤ 16) :
    Con [] false l Z own_EL n0 [ar] (⟨"java/lang/String", "getBytes", "([BIB)V"⟩ : MethodName) B3 4 none ({ frames := 1, cells := 0, slots := 0, locals := 18 } : Room) #[(.ref s), (.ref ar), (.int (0 : Int32)), (.int (1 : Int32))] h (fun v h' sf => v = none ∧ Keep h h' [ar] ∧ Arv Z h' ar ka .byte (Int32.ofNat (2 * 16)) (own_wb cs) (.int (0 : Int32)) ∧ sf ar) := by
  obtain ⟨hw, hEL, hcs, hcz, hfm, hfr, hst, hKn, hus, hss, had, hhi, hlo⟩ := id hX
  refine Con.intro (Ls := #[.val (.ref s), .val (.ref ar), .val (.int (0 : Int32)), .val (.int (1 : Int32))]) pn3 hEL hO (fun m => rfl) fun C vm T hl X hs => ?_
  have X : On C ({ frames := 1, cells := 0, slots := 0, locals := 18 } : Room) "java/lang/String" B3 4 none "getBytes" false Z a0 own_EL n0 vm T h 0 0 := X
  have sf_ar := hs ar (List.mem_of_getElem? (i := 0) rfl)
  refine X.aload_n i3_0 rfl rfl ?_
  refine X.callV hl (argsL := []) (a := s) i3_1 (c_cdW hX X.old s F_sc) E_s (hw _ wd_62) (hw _ wd_63) (hw _ wd_65) (nfSel X.zw (hw _ wd_65)) (hw _ wd_64) (hw _ wd_2) (hw _ wd_66) (by decide) sf_nil pd0 rfl rfl rfl (W := 0) rfl (by decide) (by decide) (k' := 0) rfl (n' := 0) rfl (by decide) (by decide) fun vm1 T1 h1 v1 X1 r1 Q1 => ?_
  obtain ⟨rfl, rfl⟩ := Q1
  show Go _ _ _ _ _ _ _ _ _ _ [(.int (1 : Int32))]
  refine X1.iload_n i3_4 rfl ?_
  refine X1.icN i3_5 (by decide) ?_
  refine X1.aload_n i3_8 rfl rfl ?_
  refine X1.getfield i3_9 (hw _ wd_20) Via.refl F_sv fun T2 X2 => ?_
  refine X2.iconst i3_12 (z := (0 : Int32)) rfl ?_
  refine X2.aload_n i3_13 rfl rfl ?_
  refine X2.iload_n i3_14 rfl ?_
  refine X2.iload_n i3_15 rfl ?_
  refine X2.ishl i3_16 (z := (0 : Int32)) rfl ?_
  refine X2.aload_n i3_17 rfl rfl ?_
  refine X2.getfield i3_18 (hw _ wd_20) Via.refl F_sv fun T3 X3 => ?_
  refine X3.arraylength i3_21 V_t ?_
  have Sf5 := (r1).safe (V_ar).lt sf_ar
  have B4 : Arv Z h ar ka .byte (Int32.ofNat (2 * 16)) (([] : List Value) ++ List.replicate (2 * cs.length) (.int (0 : Int32))) (.int (0 : Int32)) := Arv.pad (vs := []) V_ar (pad_rep [] (.int (0 : Int32)) (2 * cs.length))
  refine X3.arraycopy i3_22 (hw _ wd_91) (hw _ wd_94) (hw _ wd_92) (hw _ wd_93) V_t B4 rfl (by decide) (by decide) (own_nn8 (by omega)) (by rw [own_tn8 (by omega)]; exact Nat.le_of_eq (Nat.zero_add _)) (by rw [own_tn8 (n := 2 * cs.length) (by omega)]; show 0 + 2 * cs.length ≤ 32; omega) rfl (by rw [(own_tn8 (n := 2 * cs.length) (by omega))]; show 0 + _ ≤ _; simp) g_ar Sf5 rfl (by decide) (W := 0) rfl (by decide) fun T4 h4 X4 K4 V4 => ?_
  have V4 : Arv Z h4 ar ka .byte (Int32.ofNat (2 * 16)) (own_wb cs) (.int (0 : Int32)) := V4.pad (own_cp0 (own_wb cs) (.int (0 : Int32)) (2 * cs.length) (own_tn8 (n := 2 * cs.length) (by omega)) (Nat.le_of_eq (own_wbl cs)))
  refine X4.goto i3_25 j25_18 ?_
  have Sf6 := ((CHr.keep K4 (sfS Sf5 sf0) X3.chv)).safe (Nat.lt_of_lt_of_le (V_ar).lt (Nat.le_refl _)) Sf5
  exact X4.ret i3_43 rfl (by decide) (by decide) (fun sf hsf => ⟨rfl, ((Keep.refl _ [ar]).trans K4 (allS (Or.inl (List.mem_of_getElem? (i := 0) rfl)) all0)), V4, hsf _ Sf6⟩)
theorem c_gbM (hX : own_Ctx l Z a0 zc fm us ss) (hO : Old Z n0 h) (s : Addr) (t : Addr) (kb : ClassId) (cs : List Int32) (ar : Addr) (ka : ClassId) (bs : List Int32) (m : Nat) (S_s : Str Z h s t kb cs) (V_ar : Arv Z h ar ka .byte (Int32.ofNat (2 * m)) (own_wb bs) (.int (0 : Int32))) (g_ar : n0 ≤ ar) (hb : bs.length + cs.length ≤ m) (hm : m ≤ 4000) (net : t ≠ ar) :
    Con [] false l Z own_EL n0 [ar] (⟨"java/lang/String", "getBytes", "([BIB)V"⟩ : MethodName) B3 4 none ({ frames := 5, cells := 0, slots := 0, locals := 76 } : Room) #[(.ref s), (.ref ar), (.int (Int32.ofNat bs.length)), (.int (1 : Int32))] h (fun v h' sf => v = none ∧ Keep h h' [ar] ∧ Arv Z h' ar ka .byte (Int32.ofNat (2 * m)) (own_wb (bs ++ cs)) (.int (0 : Int32)) ∧ sf ar) := by
  obtain ⟨hw, hEL, hcs, hcz, hfm, hfr, hst, hKn, hus, hss, had, hhi, hlo⟩ := id hX
  refine Con.intro (Ls := #[.val (.ref s), .val (.ref ar), .val (.int (Int32.ofNat bs.length)), .val (.int (1 : Int32))]) pn3 hEL hO (fun m => rfl) fun C vm T hl X hs => ?_
  have X : On C ({ frames := 5, cells := 0, slots := 0, locals := 76 } : Room) "java/lang/String" B3 4 none "getBytes" false Z a0 own_EL n0 vm T h 0 0 := X
  have sf_ar := hs ar (List.mem_of_getElem? (i := 0) rfl)
  have Fv1 : Fld Z h s "java/lang/String" "value" "[B" (.ref t) := S_s.2.1
  have Fc1 : Fld Z h s "java/lang/String" "coder" "B" (.int (0 : Int32)) := S_s.2.2.1
  have Vt1 : Arv Z h t kb .byte (Int32.ofNat cs.length) (cs.map own_f) (.int (0 : Int32)) := S_s.2.2.2.1
  refine X.aload_n i3_0 rfl rfl ?_
  refine X.callV hl (argsL := []) (a := s) i3_1 (c_coder hX X.old s Fc1) S_s.1 (hw _ wd_62) (hw _ wd_63) (hw _ wd_65) (nfSel X.zw (hw _ wd_65)) (hw _ wd_64) (hw _ wd_2) (hw _ wd_66) (by decide) sf_nil pd0 rfl rfl rfl (W := 0) rfl (by decide) (by decide) (k' := 0) rfl (n' := 0) rfl (by decide) (by decide) fun vm2 T2 h2 v2 X2 r2 Q2 => ?_
  obtain ⟨rfl, rfl⟩ := Q2
  show Go _ _ _ _ _ _ _ _ _ _ [(.int (0 : Int32))]
  refine X2.iload_n i3_4 rfl ?_
  refine X2.icY i3_5 j5_23 (by decide) ?_
  refine X2.aload_n i3_28 rfl rfl ?_
  refine X2.getfield i3_29 (hw _ wd_20) Via.refl Fv1 fun T3 X3 => ?_
  refine X3.iconst i3_32 (z := (0 : Int32)) rfl ?_
  refine X3.aload_n i3_33 rfl rfl ?_
  refine X3.iload_n i3_34 rfl ?_
  refine X3.aload_n i3_35 rfl rfl ?_
  refine X3.getfield i3_36 (hw _ wd_20) Via.refl Fv1 fun T4 X4 => ?_
  refine X4.arraylength i3_39 Vt1 ?_
  have Sf6 := (r2).safe (V_ar).lt sf_ar
  refine X4.callS hl (argsL := [(.ref t), (.int (0 : Int32)), (.ref ar), (.int (Int32.ofNat bs.length)), (.int (Int32.ofNat cs.length))]) i3_40 (c_linf hX X4.old t kb (Int32.ofNat cs.length) cs ar ka m bs Vt1 V_ar g_ar (fun i hi => own_lt8 hi (by omega)) hb hm S_s.2.2.2.2 net) (hw _ wd_299) (hw _ wd_280) (hw _ wd_235) (hw _ wd_281) (by decide) (sf_cons ⟨Sf6, (Nat.lt_of_lt_of_le (V_ar).lt (Nat.le_refl _))⟩ sf_nil) pd21 rfl rfl rfl (W := 0) rfl (by decide) (by decide) (k' := 0) rfl (n' := 0) rfl (by decide) (by decide) fun vm5 T5 h5 v5 X5 r5 Q5 => ?_
  obtain ⟨rfl, q5_0, q5_1, q5_2⟩ := Q5
  show Go _ _ _ _ _ _ _ _ _ _ []
  exact X5.ret i3_43 rfl (by decide) (by decide) (fun sf hsf => ⟨rfl, ((Keep.refl _ [ar]).trans q5_0 (allS (Or.inl (List.mem_of_getElem? (i := 0) rfl)) all0)), q5_1, hsf _ q5_2⟩)
theorem c_psW (hX : own_Ctx l Z a0 zc fm us ss) (hO : Old Z n0 h) (sb : Addr) (ar : Addr) (ka : ClassId) (s : Addr) (t : Addr) (kb : ClassId) (cs : List Int32) (E_sb : Exa Z h sb "java/lang/StringBuilder") (g_sb : n0 ≤ sb) (F_v : Fld Z h sb "java/lang/AbstractStringBuilder" "value" "[B" (.ref ar)) (F_c : Fld Z h sb "java/lang/AbstractStringBuilder" "coder" "B" (.int (0 : Int32))) (F_n : Fld Z h sb "java/lang/AbstractStringBuilder" "count" "I" (.int (Int32.ofNat ([] : List Int32).length))) (F_m : Fld Z h sb "java/lang/AbstractStringBuilder" "maybeLatin1" "Z" (.int (0 : Int32))) (V_ar : Arv Z h ar ka .byte (16 : Int32) (([] : List Int32).map own_f) (.int (0 : Int32))) (nes : sb ≠ ar) (E_s : Exa Z h s "java/lang/String") (F_sv : Fld Z h s "java/lang/String" "value" "[B" (.ref t)) (F_sc : Fld Z h s "java/lang/String" "coder" "B" (.int (1 : Int32))) (V_t : Arv Z h t kb .byte (Int32.ofNat (2 * cs.length)) (own_wb cs) (.int (0 : Int32))) (hle : cs.length ≤ 16) (ne1 : s ≠ sb) (ne2 : t ≠ sb) :
    Con [] false l Z own_EL n0 [] (⟨"java/lang/AbstractStringBuilder", "putStringAt", "(ILjava/lang/String;)V"⟩ : MethodName) B4 3 none ({ frames := 7, cells := 1, slots := 44, locals := 102 } : Room) #[(.ref sb), (.int (0 : Int32)), (.ref s)] h (fun v h' sf => ∃ (r : Addr) (kr : ClassId), v = none ∧ Keep h h' [sb] ∧ h.size ≤ r ∧ Fld Z h' sb "java/lang/AbstractStringBuilder" "value" "[B" (.ref r) ∧ Fld Z h' sb "java/lang/AbstractStringBuilder" "coder" "B" (.int (1 : Int32)) ∧ Fld Z h' sb "java/lang/AbstractStringBuilder" "count" "I" (.int (Int32.ofNat ([] : List Int32).length)) ∧ Fld Z h' sb "java/lang/AbstractStringBuilder" "maybeLatin1" "Z" (.int (0 : Int32)) ∧ Arv Z h' r kr .byte (Int32.ofNat (2 * 16)) (own_wb cs) (.int (0 : Int32)) ∧ sf r) := by
  obtain ⟨hw, hEL, hcs, hcz, hfm, hfr, hst, hKn, hus, hss, had, hhi, hlo⟩ := id hX
  refine Con.intro (Ls := #[.val (.ref sb), .val (.int (0 : Int32)), .val (.ref s)]) pn4 hEL hO (fun m => rfl) fun C vm T hl X hs => ?_
  have X : On C ({ frames := 7, cells := 1, slots := 44, locals := 102 } : Room) "java/lang/AbstractStringBuilder" B4 3 none "putStringAt" false Z a0 own_EL n0 vm T h 0 0 := X
  refine X.aload_n i4_0 rfl rfl ?_
  refine X.aload_n i4_1 rfl rfl ?_
  refine X.callP hl (argsL := [(.ref s)]) (a := sb) i4_2 (c_in1 hX X.old sb ar ka s E_sb g_sb F_v F_c F_n F_m V_ar nes E_s F_sc) E_sb (hw _ wd_80) (hw _ wd_81) (selP (by decide) (hw _ wd_83) (hw _ wd_81) (hw _ wd_82)) (hw _ wd_82) (hw _ wd_39) (hw _ wd_84) (by decide) sf_nil pd1 rfl rfl rfl (W := 0) rfl (by decide) (by decide) (k' := 1) rfl (n' := 44) rfl (by decide) (by decide) fun vm1 T1 h1 v1 X1 r1 Q1 => ?_
  obtain ⟨r_1, kr_1, rfl, q1_0, q1_1, q1_2, q1_3, q1_4, q1_5, q1_6, q1_7⟩ := Q1
  have g2 := Nat.le_trans X.n0le q1_1
  show Go _ _ _ _ _ _ _ _ _ _ []
  refine X1.aload_n i4_5 rfl rfl ?_
  refine X1.aload_n i4_6 rfl rfl ?_
  refine X1.getfield i4_7 (hw _ wd_43) Via.refl q1_2 fun T3 X3 => ?_
  refine X3.iload_n i4_10 rfl ?_
  refine X3.aload_n i4_11 rfl rfl ?_
  refine X3.getfield i4_12 (hw _ wd_45) Via.refl q1_3 fun T4 X4 => ?_
  have E5 := (E_s.keep q1_0)
  have F6 := (F_sv.keep q1_0 (ninS ne1 nin0))
  have F7 := (F_sc.keep q1_0 (ninS ne1 nin0))
  have V8 := (V_t.keep q1_0 (ninS ne2 nin0))
  refine X4.callV hl (argsL := [(.ref r_1), (.int (0 : Int32)), (.int (1 : Int32))]) (a := s) i4_15 (c_gbW hX X4.old s t kb cs r_1 kr_1 E5 F6 F7 V8 q1_6 g2 hle) E5 (hw _ wd_86) (hw _ wd_87) (hw _ wd_89) (nfSel X4.zw (hw _ wd_89)) (hw _ wd_88) (hw _ wd_2) (hw _ wd_90) (by decide) (sf_cons ⟨q1_7, (q1_6).lt⟩ sf_nil) pd2 rfl rfl rfl (W := 0) rfl (by decide) (by decide) (k' := 1) rfl (n' := 44) rfl (by decide) (by decide) fun vm9 T9 h9 v9 X9 r9 Q9 => ?_
  obtain ⟨rfl, q9_0, q9_1, q9_2⟩ := Q9
  show Go _ _ _ _ _ _ _ _ _ _ []
  have F10 := (q1_2.keep q9_0 (ninS (Nat.ne_of_lt (Nat.lt_of_lt_of_le (F_v).lt q1_1)) nin0))
  have F11 := (q1_3.keep q9_0 (ninS (Nat.ne_of_lt (Nat.lt_of_lt_of_le (F_v).lt q1_1)) nin0))
  have F12 := (q1_4.keep q9_0 (ninS (Nat.ne_of_lt (Nat.lt_of_lt_of_le (F_v).lt q1_1)) nin0))
  have F13 := (q1_5.keep q9_0 (ninS (Nat.ne_of_lt (Nat.lt_of_lt_of_le (F_v).lt q1_1)) nin0))
  exact X9.ret i4_18 rfl (by decide) (by decide) (fun sf hsf => ⟨r_1, kr_1, rfl, (((Keep.refl _ [sb]).trans q1_0 (allS (Or.inl (List.mem_of_getElem? (i := 0) rfl)) all0)).trans q9_0 (allS (Or.inr q1_1) all0)), q1_1, F10, F11, F12, F13, q9_1, hsf _ q9_2⟩)
theorem c_psM (hX : own_Ctx l Z a0 zc fm us ss) (hO : Old Z n0 h) (sb : Addr) (s : Addr) (t : Addr) (kb : ClassId) (cs : List Int32) (ar : Addr) (ka : ClassId) (bs : List Int32) (m : Nat) (S_s : Str Z h s t kb cs) (E_sb : Exa Z h sb "java/lang/StringBuilder") (F_v : Fld Z h sb "java/lang/AbstractStringBuilder" "value" "[B" (.ref ar)) (F_c : Fld Z h sb "java/lang/AbstractStringBuilder" "coder" "B" (.int (1 : Int32))) (V_ar : Arv Z h ar ka .byte (Int32.ofNat (2 * m)) (own_wb bs) (.int (0 : Int32))) (g_ar : n0 ≤ ar) (hb : bs.length + cs.length ≤ m) (hm : m ≤ 4000) (net : t ≠ ar) :
    Con [] false l Z own_EL n0 [ar] (⟨"java/lang/AbstractStringBuilder", "putStringAt", "(ILjava/lang/String;)V"⟩ : MethodName) B4 3 none ({ frames := 6, cells := 0, slots := 0, locals := 91 } : Room) #[(.ref sb), (.int (Int32.ofNat bs.length)), (.ref s)] h (fun v h' sf => v = none ∧ Keep h h' [ar] ∧ Arv Z h' ar ka .byte (Int32.ofNat (2 * m)) (own_wb (bs ++ cs)) (.int (0 : Int32)) ∧ sf ar) := by
  obtain ⟨hw, hEL, hcs, hcz, hfm, hfr, hst, hKn, hus, hss, had, hhi, hlo⟩ := id hX
  refine Con.intro (Ls := #[.val (.ref sb), .val (.int (Int32.ofNat bs.length)), .val (.ref s)]) pn4 hEL hO (fun m => rfl) fun C vm T hl X hs => ?_
  have X : On C ({ frames := 6, cells := 0, slots := 0, locals := 91 } : Room) "java/lang/AbstractStringBuilder" B4 3 none "putStringAt" false Z a0 own_EL n0 vm T h 0 0 := X
  have sf_ar := hs ar (List.mem_of_getElem? (i := 0) rfl)
  have Fv1 : Fld Z h s "java/lang/String" "value" "[B" (.ref t) := S_s.2.1
  have Fc1 : Fld Z h s "java/lang/String" "coder" "B" (.int (0 : Int32)) := S_s.2.2.1
  have Vt1 : Arv Z h t kb .byte (Int32.ofNat cs.length) (cs.map own_f) (.int (0 : Int32)) := S_s.2.2.2.1
  refine X.aload_n i4_0 rfl rfl ?_
  refine X.aload_n i4_1 rfl rfl ?_
  refine X.callP hl (argsL := [(.ref s)]) (a := sb) i4_2 (c_in0 hX X.old sb s E_sb F_c S_s.1 Fc1) E_sb (hw _ wd_80) (hw _ wd_81) (selP (by decide) (hw _ wd_83) (hw _ wd_81) (hw _ wd_82)) (hw _ wd_82) (hw _ wd_39) (hw _ wd_84) (by decide) sf_nil pd1 rfl rfl rfl (W := 0) rfl (by decide) (by decide) (k' := 0) rfl (n' := 0) rfl (by decide) (by decide) fun vm2 T2 h2 v2 X2 r2 Q2 => ?_
  obtain ⟨rfl, rfl⟩ := Q2
  show Go _ _ _ _ _ _ _ _ _ _ []
  refine X2.aload_n i4_5 rfl rfl ?_
  refine X2.aload_n i4_6 rfl rfl ?_
  refine X2.getfield i4_7 (hw _ wd_43) Via.refl F_v fun T3 X3 => ?_
  refine X3.iload_n i4_10 rfl ?_
  refine X3.aload_n i4_11 rfl rfl ?_
  refine X3.getfield i4_12 (hw _ wd_45) Via.refl F_c fun T4 X4 => ?_
  have Sf6 := (r2).safe (V_ar).lt sf_ar
  refine X4.callV hl (argsL := [(.ref ar), (.int (Int32.ofNat bs.length)), (.int (1 : Int32))]) (a := s) i4_15 (c_gbM hX X4.old s t kb cs ar ka bs m S_s V_ar g_ar hb hm net) S_s.1 (hw _ wd_86) (hw _ wd_87) (hw _ wd_89) (nfSel X4.zw (hw _ wd_89)) (hw _ wd_88) (hw _ wd_2) (hw _ wd_90) (by decide) (sf_cons ⟨Sf6, (Nat.lt_of_lt_of_le (V_ar).lt (Nat.le_refl _))⟩ sf_nil) pd2 rfl rfl rfl (W := 0) rfl (by decide) (by decide) (k' := 0) rfl (n' := 0) rfl (by decide) (by decide) fun vm5 T5 h5 v5 X5 r5 Q5 => ?_
  obtain ⟨rfl, q5_0, q5_1, q5_2⟩ := Q5
  show Go _ _ _ _ _ _ _ _ _ _ []
  exact X5.ret i4_18 rfl (by decide) (by decide) (fun sf hsf => ⟨rfl, ((Keep.refl _ [ar]).trans q5_0 (allS (Or.inl (List.mem_of_getElem? (i := 0) rfl)) all0)), q5_1, hsf _ q5_2⟩)
theorem c_aaW (hX : own_Ctx l Z a0 zc fm us ss) (hO : Old Z n0 h) (sb : Addr) (ar : Addr) (ka : ClassId) (s : Addr) (t : Addr) (kb : ClassId) (cs : List Int32) (E_sb : Exa Z h sb "java/lang/StringBuilder") (g_sb : n0 ≤ sb) (F_v : Fld Z h sb "java/lang/AbstractStringBuilder" "value" "[B" (.ref ar)) (F_c : Fld Z h sb "java/lang/AbstractStringBuilder" "coder" "B" (.int (0 : Int32))) (F_n : Fld Z h sb "java/lang/AbstractStringBuilder" "count" "I" (.int (Int32.ofNat ([] : List Int32).length))) (F_m : Fld Z h sb "java/lang/AbstractStringBuilder" "maybeLatin1" "Z" (.int (0 : Int32))) (V_ar : Arv Z h ar ka .byte (16 : Int32) (([] : List Int32).map own_f) (.int (0 : Int32))) (nes : sb ≠ ar) (E_s : Exa Z h s "java/lang/String") (F_sv : Fld Z h s "java/lang/String" "value" "[B" (.ref t)) (F_sc : Fld Z h s "java/lang/String" "coder" "B" (.int (1 : Int32))) (V_t : Arv Z h t kb .byte (Int32.ofNat (2 * cs.length)) (own_wb cs) (.int (0 : Int32))) (hle : cs.length ≤ 16) (ne1 : s ≠ sb) (ne2 : t ≠ sb) :
    Con [] false l Z own_EL n0 [] (⟨"java/lang/AbstractStringBuilder", "append", "(Ljava/lang/String;)Ljava/lang/AbstractStringBuilder;"⟩ : MethodName) B5 3 (some (.object "java/lang/AbstractStringBuilder")) ({ frames := 8, cells := 1, slots := 44, locals := 116 } : Room) #[(.ref sb), (.ref s)] h (fun v h' sf => ∃ (r : Addr) (kr : ClassId), v = some (.ref sb) ∧ Keep h h' [sb] ∧ h.size ≤ r ∧ Fld Z h' sb "java/lang/AbstractStringBuilder" "value" "[B" (.ref r) ∧ Fld Z h' sb "java/lang/AbstractStringBuilder" "coder" "B" (.int (1 : Int32)) ∧ Fld Z h' sb "java/lang/AbstractStringBuilder" "count" "I" (.int (Int32.ofNat cs.length)) ∧ Fld Z h' sb "java/lang/AbstractStringBuilder" "maybeLatin1" "Z" (.int (0 : Int32)) ∧ Arv Z h' r kr .byte (Int32.ofNat (2 * 16)) (own_wb cs) (.int (0 : Int32)) ∧ sf r) := by
  obtain ⟨hw, hEL, hcs, hcz, hfm, hfr, hst, hKn, hus, hss, had, hhi, hlo⟩ := id hX
  refine Con.intro (Ls := #[.val (.ref sb), .val (.ref s), .unset]) pn5 hEL hO (fun m => rfl) fun C vm T hl X hs => ?_
  have X : On C ({ frames := 8, cells := 1, slots := 44, locals := 116 } : Room) "java/lang/AbstractStringBuilder" B5 3 (some (.object "java/lang/AbstractStringBuilder")) "append" false Z a0 own_EL n0 vm T h 0 0 := X
  refine X.aload_n i5_0 rfl rfl ?_
  refine X.nonnullY i5_1 j1_8 ?_
  refine X.aload_n i5_9 rfl rfl ?_
  refine X.callV hl (argsL := []) (a := s) i5_10 (c_wlen hX X.old s t kb cs E_s F_sv F_sc V_t hle) E_s (hw _ wd_57) (hw _ wd_58) (hw _ wd_60) (nfSel X.zw (hw _ wd_60)) (hw _ wd_59) (hw _ wd_2) (hw _ wd_61) (by decide) sf_nil pd26 rfl rfl rfl (W := 0) rfl (by decide) (by decide) (k' := 0) rfl (n' := 0) rfl (by decide) (by decide) fun vm1 T1 h1 v1 X1 r1 Q1 => ?_
  obtain ⟨rfl, rfl⟩ := Q1
  show Go _ _ _ _ _ _ _ _ _ _ [(.int (Int32.ofNat cs.length))]
  refine X1.istore_n i5_13 (Ls' := #[.val (.ref sb), .val (.ref s), .val (.int (Int32.ofNat cs.length))]) rfl ?_
  refine X1.aload_n i5_14 rfl rfl ?_
  refine X1.aload_n i5_15 rfl rfl ?_
  refine X1.getfield i5_16 (hw _ wd_68) Via.refl F_n fun T2 X2 => ?_
  refine X2.iload_n i5_19 rfl ?_
  refine X2.iadd i5_20 (z := (Int32.ofNat cs.length)) (Int32.zero_add _) ?_
  refine X2.callP hl (argsL := [(.int (Int32.ofNat cs.length))]) (a := sb) i5_21 (c_ens hX X2.old sb ar ka (([] : List Int32).map own_f) cs.length F_v F_c V_ar hle) E_sb (hw _ wd_70) (hw _ wd_71) (selP (by decide) (hw _ wd_73) (hw _ wd_71) (hw _ wd_72)) (hw _ wd_72) (hw _ wd_39) (hw _ wd_74) (by decide) sf_nil pd3 rfl rfl rfl (W := 0) rfl (by decide) (by decide) (k' := 0) rfl (n' := 0) rfl (by decide) (by decide) fun vm3 T3 h3 v3 X3 r3 Q3 => ?_
  obtain ⟨rfl, rfl⟩ := Q3
  show Go _ _ _ _ _ _ _ _ _ _ []
  refine X3.aload_n i5_24 rfl rfl ?_
  refine X3.aload_n i5_25 rfl rfl ?_
  refine X3.getfield i5_26 (hw _ wd_68) Via.refl F_n fun T4 X4 => ?_
  refine X4.aload_n i5_29 rfl rfl ?_
  refine X4.callP hl (argsL := [(.int (Int32.ofNat ([] : List Int32).length)), (.ref s)]) (a := sb) i5_30 (c_psW hX X4.old sb ar ka s t kb cs E_sb g_sb F_v F_c F_n F_m V_ar nes E_s F_sv F_sc V_t hle ne1 ne2) E_sb (hw _ wd_75) (hw _ wd_76) (selP (by decide) (hw _ wd_78) (hw _ wd_76) (hw _ wd_77)) (hw _ wd_77) (hw _ wd_39) (hw _ wd_79) (by decide) sf_nil pd4 rfl rfl rfl (W := 0) rfl (by decide) (by decide) (k' := 1) rfl (n' := 44) rfl (by decide) (by decide) fun vm5 T5 h5 v5 X5 r5 Q5 => ?_
  obtain ⟨r_5, kr_5, rfl, q5_0, q5_1, q5_2, q5_3, q5_4, q5_5, q5_6, q5_7⟩ := Q5
  have g6 := Nat.le_trans X3.n0le q5_1
  show Go _ _ _ _ _ _ _ _ _ _ []
  refine X5.aload_n i5_33 rfl rfl ?_
  refine X5.dup i5_34 rfl ?_
  refine X5.getfield i5_35 (hw _ wd_68) Via.refl q5_4 fun T7 X7 => ?_
  refine X7.iload_n i5_38 rfl ?_
  refine X7.iadd i5_39 (z := (Int32.ofNat cs.length)) (Int32.zero_add _) ?_
  have E8 := (E_sb.keep q5_0)
  refine X7.putfield i5_40 (hw _ wd_68) Via.refl q5_4 E8 (Or.inl (hw _ wd_69)) (hw _ wd_30) (ty := .int) (by decide) rfl rfl g_sb (Safe.exa X7.zw.alike E8 (by decide) (by decide)) fun T9 h9 X9 W9 => ?_
  refine X9.aload_n i5_43 rfl rfl ?_
  have F10 := (q5_2.other W9 (Or.inr (slot_ne (Or.inl (hw _ wd_44)) (Or.inl (hw _ wd_69)) (by decide) (t := (.array .byte)) (t' := .int) (by decide) (by decide))))
  have F11 := (q5_3.other W9 (Or.inr (slot_ne (Or.inl (hw _ wd_46)) (Or.inl (hw _ wd_69)) (by decide) (t := .byte) (t' := .int) (by decide) (by decide))))
  have F12 := (q5_5.other W9 (Or.inr (slot_ne (Or.inl (hw _ wd_301)) (Or.inl (hw _ wd_69)) (by decide) (t := .boolean) (t' := .int) (by decide) (by decide))))
  have V13 := (q5_6.other W9 (Nat.ne_of_gt (Nat.lt_of_lt_of_le (Nat.lt_of_lt_of_le (Nat.lt_of_lt_of_le (F_v).lt (Nat.le_refl _)) (Nat.le_refl _)) q5_1)))
  have Sf14 := ((CHr.wr W9 (Safe.exa X7.zw.alike E8 (by decide) (by decide)) X7.chv)).safe (q5_6).lt q5_7
  exact X9.areturn i5_44 rfl rfl rfl (by decide) (by decide) (fun sf hsf => ⟨r_5, kr_5, rfl, (((Keep.refl _ [sb]).trans q5_0 (allS (Or.inl (List.mem_of_getElem? (i := 0) rfl)) all0)).wr W9 (Or.inl (List.mem_of_getElem? (i := 0) rfl))), (Nat.le_trans (Nat.le_refl _) (Nat.le_trans (Nat.le_refl _) q5_1)), F10, F11, (q5_4.same W9), F12, V13, hsf _ Sf14⟩)
theorem c_apW (hX : own_Ctx l Z a0 zc fm us ss) (hO : Old Z n0 h) (sb : Addr) (ar : Addr) (ka : ClassId) (s : Addr) (t : Addr) (kb : ClassId) (cs : List Int32) (E_sb : Exa Z h sb "java/lang/StringBuilder") (g_sb : n0 ≤ sb) (F_v : Fld Z h sb "java/lang/AbstractStringBuilder" "value" "[B" (.ref ar)) (F_c : Fld Z h sb "java/lang/AbstractStringBuilder" "coder" "B" (.int (0 : Int32))) (F_n : Fld Z h sb "java/lang/AbstractStringBuilder" "count" "I" (.int (Int32.ofNat ([] : List Int32).length))) (F_m : Fld Z h sb "java/lang/AbstractStringBuilder" "maybeLatin1" "Z" (.int (0 : Int32))) (V_ar : Arv Z h ar ka .byte (16 : Int32) (([] : List Int32).map own_f) (.int (0 : Int32))) (nes : sb ≠ ar) (E_s : Exa Z h s "java/lang/String") (F_sv : Fld Z h s "java/lang/String" "value" "[B" (.ref t)) (F_sc : Fld Z h s "java/lang/String" "coder" "B" (.int (1 : Int32))) (V_t : Arv Z h t kb .byte (Int32.ofNat (2 * cs.length)) (own_wb cs) (.int (0 : Int32))) (hle : cs.length ≤ 16) (ne1 : s ≠ sb) (ne2 : t ≠ sb) :
    Con [] false l Z own_EL n0 [] (⟨"java/lang/StringBuilder", "append", "(Ljava/lang/String;)Ljava/lang/StringBuilder;"⟩ : MethodName) B6 2 (some (.object "java/lang/StringBuilder")) ({ frames := 9, cells := 1, slots := 44, locals := 130 } : Room) #[(.ref sb), (.ref s)] h (fun v h' sf => ∃ (r : Addr) (kr : ClassId), v = some (.ref sb) ∧ Keep h h' [sb] ∧ h.size ≤ r ∧ Fld Z h' sb "java/lang/AbstractStringBuilder" "value" "[B" (.ref r) ∧ Fld Z h' sb "java/lang/AbstractStringBuilder" "coder" "B" (.int (1 : Int32)) ∧ Fld Z h' sb "java/lang/AbstractStringBuilder" "count" "I" (.int (Int32.ofNat cs.length)) ∧ Fld Z h' sb "java/lang/AbstractStringBuilder" "maybeLatin1" "Z" (.int (0 : Int32)) ∧ Arv Z h' r kr .byte (Int32.ofNat (2 * 16)) (own_wb cs) (.int (0 : Int32)) ∧ sf r) := by
  obtain ⟨hw, hEL, hcs, hcz, hfm, hfr, hst, hKn, hus, hss, had, hhi, hlo⟩ := id hX
  refine Con.intro (Ls := #[.val (.ref sb), .val (.ref s)]) pn6 hEL hO (fun m => rfl) fun C vm T hl X hs => ?_
  have X : On C ({ frames := 9, cells := 1, slots := 44, locals := 130 } : Room) "java/lang/StringBuilder" B6 2 (some (.object "java/lang/StringBuilder")) "append" false Z a0 own_EL n0 vm T h 0 0 := X
  refine X.aload_n i6_0 rfl rfl ?_
  refine X.aload_n i6_1 rfl rfl ?_
  refine X.callU hl (argsL := [(.ref s)]) (a := sb) i6_2 (c_aaW hX X.old sb ar ka s t kb cs E_sb g_sb F_v F_c F_n F_m V_ar nes E_s F_sv F_sc V_t hle ne1 ne2) E_sb (hw _ wd_52) (sameOf (hw _ wd_55) (by decide) (hw _ wd_73) rfl) (hw _ wd_53) (hw _ wd_54) (by decide) (hw _ wd_39) (hw _ wd_56) sf_nil pd5 rfl rfl rfl (W := 0) rfl (by decide) (by decide) (k' := 1) rfl (n' := 44) rfl (by decide) (by decide) fun vm1 T1 h1 v1 X1 r1 Q1 => ?_
  obtain ⟨r_1, kr_1, rfl, q1_0, q1_1, q1_2, q1_3, q1_4, q1_5, q1_6, q1_7⟩ := Q1
  have g2 := Nat.le_trans X.n0le q1_1
  show Go _ _ _ _ _ _ _ _ _ _ [(.ref sb)]
  refine X1.pop i6_5 rfl ?_
  refine X1.aload_n i6_6 rfl rfl ?_
  exact X1.areturn i6_7 rfl rfl rfl (by decide) (by decide) (fun sf hsf => ⟨r_1, kr_1, rfl, ((Keep.refl _ [sb]).trans q1_0 (allS (Or.inl (List.mem_of_getElem? (i := 0) rfl)) all0)), q1_1, q1_2, q1_3, q1_4, q1_5, q1_6, hsf _ q1_7⟩)
theorem c_aaM (hX : own_Ctx l Z a0 zc fm us ss) (hO : Old Z n0 h) (sb : Addr) (s : Addr) (t : Addr) (kb : ClassId) (cs : List Int32) (ar : Addr) (ka : ClassId) (bs : List Int32) (S_s : Str Z h s t kb cs) (g_sb : n0 ≤ sb) (E_sb : Exa Z h sb "java/lang/StringBuilder") (F_v : Fld Z h sb "java/lang/AbstractStringBuilder" "value" "[B" (.ref ar)) (F_c : Fld Z h sb "java/lang/AbstractStringBuilder" "coder" "B" (.int (1 : Int32))) (F_n : Fld Z h sb "java/lang/AbstractStringBuilder" "count" "I" (.int (Int32.ofNat bs.length))) (V_ar : Arv Z h ar ka .byte (Int32.ofNat (2 * 16)) (own_wb bs) (.int (0 : Int32))) (F_m : Fld Z h sb "java/lang/AbstractStringBuilder" "maybeLatin1" "Z" (.int (0 : Int32))) (gq1 : 16 < (bs ++ cs).length) (gq2 : (bs ++ cs).length ≤ 22) (hb : bs.length ≤ 3) (nes : sb ≠ ar) (ne1 : s ≠ sb) (ne2 : t ≠ sb) :
    Con [] false l Z own_EL n0 [] (⟨"java/lang/AbstractStringBuilder", "append", "(Ljava/lang/String;)Ljava/lang/AbstractStringBuilder;"⟩ : MethodName) B5 3 (some (.object "java/lang/AbstractStringBuilder")) ({ frames := 7, cells := 1, slots := 68, locals := 105 } : Room) #[(.ref sb), (.ref s)] h (fun v h' sf => ∃ (r : Addr) (kr : ClassId), v = some (.ref sb) ∧ Keep h h' [sb] ∧ h.size ≤ r ∧ Fld Z h' sb "java/lang/AbstractStringBuilder" "value" "[B" (.ref r) ∧ Fld Z h' sb "java/lang/AbstractStringBuilder" "coder" "B" (.int (1 : Int32)) ∧ Fld Z h' sb "java/lang/AbstractStringBuilder" "count" "I" (.int (Int32.ofNat (bs ++ cs).length)) ∧ Fld Z h' sb "java/lang/AbstractStringBuilder" "maybeLatin1" "Z" (.int (0 : Int32)) ∧ Arv Z h' r kr .byte (Int32.ofNat (2 * 34)) (own_wb (bs ++ cs)) (.int (0 : Int32)) ∧ sf r) := by
  obtain ⟨hw, hEL, hcs, hcz, hfm, hfr, hst, hKn, hus, hss, had, hhi, hlo⟩ := id hX
  refine Con.intro (Ls := #[.val (.ref sb), .val (.ref s), .unset]) pn5 hEL hO (fun m => rfl) fun C vm T hl X hs => ?_
  have X : On C ({ frames := 7, cells := 1, slots := 68, locals := 105 } : Room) "java/lang/AbstractStringBuilder" B5 3 (some (.object "java/lang/AbstractStringBuilder")) "append" false Z a0 own_EL n0 vm T h 0 0 := X
  have hll : bs.length + cs.length ≤ 22 := by rw [← List.length_append]; exact gq2
  refine X.aload_n i5_0 rfl rfl ?_
  refine X.nonnullY i5_1 j1_8 ?_
  refine X.aload_n i5_9 rfl rfl ?_
  refine own_strLen X hw i5_10 (hw _ wd_57) S_s (by omega) hcs hcz rfl (W := 0) rfl (by decide) (by decide) (by decide) (by decide) rfl fun T1 X1 => ?_
  refine X1.istore_n i5_13 (Ls' := #[.val (.ref sb), .val (.ref s), .val (.int (Int32.ofNat cs.length))]) rfl ?_
  refine X1.aload_n i5_14 rfl rfl ?_
  refine X1.aload_n i5_15 rfl rfl ?_
  refine X1.getfield i5_16 (hw _ wd_68) Via.refl F_n fun T2 X2 => ?_
  refine X2.iload_n i5_19 rfl ?_
  refine X2.iadd i5_20 (z := (Int32.ofNat (bs ++ cs).length)) (own_addl bs cs) ?_
  refine X2.callP hl (argsL := [(.int (Int32.ofNat (bs ++ cs).length))]) (a := sb) i5_21 (c_egW hX X2.old sb ar ka (own_wb bs) (bs ++ cs).length (Int32.ofNat bs.length) E_sb g_sb F_v F_c V_ar F_n F_m (by rw [own_wbl]; omega) nes gq1 gq2) E_sb (hw _ wd_70) (hw _ wd_71) (selP (by decide) (hw _ wd_73) (hw _ wd_71) (hw _ wd_72)) (hw _ wd_72) (hw _ wd_39) (hw _ wd_74) (by decide) sf_nil pd3 rfl rfl rfl (W := 0) rfl (by decide) (by decide) (k' := 1) rfl (n' := 68) rfl (by decide) (by decide) fun vm3 T3 h3 v3 X3 r3 Q3 => ?_
  obtain ⟨r_3, kr_3, rfl, q3_0, q3_1, q3_2, q3_3, q3_4, q3_5, q3_6, q3_7⟩ := Q3
  have g4 := Nat.le_trans X.n0le q3_1
  show Go _ _ _ _ _ _ _ _ _ _ []
  refine X3.aload_n i5_24 rfl rfl ?_
  refine X3.aload_n i5_25 rfl rfl ?_
  refine X3.getfield i5_26 (hw _ wd_68) Via.refl q3_4 fun T5 X5 => ?_
  refine X5.aload_n i5_29 rfl rfl ?_
  have S6 := (S_s.keep q3_0 (ninS ne1 nin0) (ninS ne2 nin0))
  have E7 := (E_sb.keep q3_0)
  refine X5.callP hl (argsL := [(.int (Int32.ofNat bs.length)), (.ref s)]) (a := sb) i5_30 (c_psM hX X5.old sb s t kb cs r_3 kr_3 bs 34 S6 E7 q3_2 q3_3 q3_6 g4 (by omega) (by decide) (Nat.ne_of_lt (Nat.lt_of_lt_of_le (S_s).ltT q3_1))) E7 (hw _ wd_75) (hw _ wd_76) (selP (by decide) (hw _ wd_78) (hw _ wd_76) (hw _ wd_77)) (hw _ wd_77) (hw _ wd_39) (hw _ wd_79) (by decide) (sf_cons ⟨q3_7, (q3_6).lt⟩ sf_nil) pd4 rfl rfl rfl (W := 0) rfl (by decide) (by decide) (k' := 1) rfl (n' := 68) rfl (by decide) (by decide) fun vm8 T8 h8 v8 X8 r8 Q8 => ?_
  obtain ⟨rfl, q8_0, q8_1, q8_2⟩ := Q8
  show Go _ _ _ _ _ _ _ _ _ _ []
  refine X8.aload_n i5_33 rfl rfl ?_
  refine X8.dup i5_34 rfl ?_
  have F9 := (q3_4.keep q8_0 (ninS (Nat.ne_of_lt (Nat.lt_of_lt_of_le (F_v).lt q3_1)) nin0))
  refine X8.getfield i5_35 (hw _ wd_68) Via.refl F9 fun T10 X10 => ?_
  refine X10.iload_n i5_38 rfl ?_
  refine X10.iadd i5_39 (z := (Int32.ofNat (bs ++ cs).length)) (own_addl bs cs) ?_
  have E11 := (E7.keep q8_0)
  refine X10.putfield i5_40 (hw _ wd_68) Via.refl F9 E11 (Or.inl (hw _ wd_69)) (hw _ wd_30) (ty := .int) (by decide) rfl rfl g_sb (Safe.exa X10.zw.alike E11 (by decide) (by decide)) fun T12 h12 X12 W12 => ?_
  refine X12.aload_n i5_43 rfl rfl ?_
  have F13 := ((q3_2.keep q8_0 (ninS (Nat.ne_of_lt (Nat.lt_of_lt_of_le (F_v).lt q3_1)) nin0)).other W12 (Or.inr (slot_ne (Or.inl (hw _ wd_44)) (Or.inl (hw _ wd_69)) (by decide) (t := (.array .byte)) (t' := .int) (by decide) (by decide))))
  have F14 := ((q3_3.keep q8_0 (ninS (Nat.ne_of_lt (Nat.lt_of_lt_of_le (F_v).lt q3_1)) nin0)).other W12 (Or.inr (slot_ne (Or.inl (hw _ wd_46)) (Or.inl (hw _ wd_69)) (by decide) (t := .byte) (t' := .int) (by decide) (by decide))))
  have F15 := ((q3_5.keep q8_0 (ninS (Nat.ne_of_lt (Nat.lt_of_lt_of_le (F_v).lt q3_1)) nin0)).other W12 (Or.inr (slot_ne (Or.inl (hw _ wd_301)) (Or.inl (hw _ wd_69)) (by decide) (t := .boolean) (t' := .int) (by decide) (by decide))))
  have V16 := (q8_1.other W12 (Nat.ne_of_gt (Nat.lt_of_lt_of_le (F_v).lt q3_1)))
  have Sf17 := ((CHr.wr W12 (Safe.exa X10.zw.alike E11 (by decide) (by decide)) X10.chv)).safe (q8_1).lt q8_2
  exact X12.areturn i5_44 rfl rfl rfl (by decide) (by decide) (fun sf hsf => ⟨r_3, kr_3, rfl, ((((Keep.refl _ [sb]).trans q3_0 (allS (Or.inl (List.mem_of_getElem? (i := 0) rfl)) all0)).trans q8_0 (allS (Or.inr q3_1) all0)).wr W12 (Or.inl (List.mem_of_getElem? (i := 0) rfl))), q3_1, F13, F14, (F9.same W12), F15, V16, hsf _ Sf17⟩)
theorem c_apM (hX : own_Ctx l Z a0 zc fm us ss) (hO : Old Z n0 h) (sb : Addr) (s : Addr) (t : Addr) (kb : ClassId) (cs : List Int32) (ar : Addr) (ka : ClassId) (bs : List Int32) (S_s : Str Z h s t kb cs) (g_sb : n0 ≤ sb) (E_sb : Exa Z h sb "java/lang/StringBuilder") (F_v : Fld Z h sb "java/lang/AbstractStringBuilder" "value" "[B" (.ref ar)) (F_c : Fld Z h sb "java/lang/AbstractStringBuilder" "coder" "B" (.int (1 : Int32))) (F_n : Fld Z h sb "java/lang/AbstractStringBuilder" "count" "I" (.int (Int32.ofNat bs.length))) (V_ar : Arv Z h ar ka .byte (Int32.ofNat (2 * 16)) (own_wb bs) (.int (0 : Int32))) (F_m : Fld Z h sb "java/lang/AbstractStringBuilder" "maybeLatin1" "Z" (.int (0 : Int32))) (gq1 : 16 < (bs ++ cs).length) (gq2 : (bs ++ cs).length ≤ 22) (hb : bs.length ≤ 3) (nes : sb ≠ ar) (ne1 : s ≠ sb) (ne2 : t ≠ sb) :
    Con [] false l Z own_EL n0 [] (⟨"java/lang/StringBuilder", "append", "(Ljava/lang/String;)Ljava/lang/StringBuilder;"⟩ : MethodName) B6 2 (some (.object "java/lang/StringBuilder")) ({ frames := 8, cells := 1, slots := 68, locals := 119 } : Room) #[(.ref sb), (.ref s)] h (fun v h' sf => ∃ (r : Addr) (kr : ClassId), v = some (.ref sb) ∧ Keep h h' [sb] ∧ h.size ≤ r ∧ Fld Z h' sb "java/lang/AbstractStringBuilder" "value" "[B" (.ref r) ∧ Fld Z h' sb "java/lang/AbstractStringBuilder" "coder" "B" (.int (1 : Int32)) ∧ Fld Z h' sb "java/lang/AbstractStringBuilder" "count" "I" (.int (Int32.ofNat (bs ++ cs).length)) ∧ Fld Z h' sb "java/lang/AbstractStringBuilder" "maybeLatin1" "Z" (.int (0 : Int32)) ∧ Arv Z h' r kr .byte (Int32.ofNat (2 * 34)) (own_wb (bs ++ cs)) (.int (0 : Int32)) ∧ sf r) := by
  obtain ⟨hw, hEL, hcs, hcz, hfm, hfr, hst, hKn, hus, hss, had, hhi, hlo⟩ := id hX
  refine Con.intro (Ls := #[.val (.ref sb), .val (.ref s)]) pn6 hEL hO (fun m => rfl) fun C vm T hl X hs => ?_
  have X : On C ({ frames := 8, cells := 1, slots := 68, locals := 119 } : Room) "java/lang/StringBuilder" B6 2 (some (.object "java/lang/StringBuilder")) "append" false Z a0 own_EL n0 vm T h 0 0 := X
  refine X.aload_n i6_0 rfl rfl ?_
  refine X.aload_n i6_1 rfl rfl ?_
  refine X.callU hl (argsL := [(.ref s)]) (a := sb) i6_2 (c_aaM hX X.old sb s t kb cs ar ka bs S_s g_sb E_sb F_v F_c F_n V_ar F_m gq1 gq2 hb nes ne1 ne2) E_sb (hw _ wd_52) (sameOf (hw _ wd_55) (by decide) (hw _ wd_73) rfl) (hw _ wd_53) (hw _ wd_54) (by decide) (hw _ wd_39) (hw _ wd_56) sf_nil pd5 rfl rfl rfl (W := 0) rfl (by decide) (by decide) (k' := 1) rfl (n' := 68) rfl (by decide) (by decide) fun vm1 T1 h1 v1 X1 r1 Q1 => ?_
  obtain ⟨r_1, kr_1, rfl, q1_0, q1_1, q1_2, q1_3, q1_4, q1_5, q1_6, q1_7⟩ := Q1
  have g2 := Nat.le_trans X.n0le q1_1
  show Go _ _ _ _ _ _ _ _ _ _ [(.ref sb)]
  refine X1.pop i6_5 rfl ?_
  refine X1.aload_n i6_6 rfl rfl ?_
  exact X1.areturn i6_7 rfl rfl rfl (by decide) (by decide) (fun sf hsf => ⟨r_1, kr_1, rfl, ((Keep.refl _ [sb]).trans q1_0 (allS (Or.inl (List.mem_of_getElem? (i := 0) rfl)) all0)), q1_1, q1_2, q1_3, q1_4, q1_5, q1_6, hsf _ q1_7⟩)
theorem c_gv (hX : own_Ctx l Z a0 zc fm us ss) (hO : Old Z n0 h) (sb : Addr) (ar : Addr) (F_v : Fld Z h sb "java/lang/AbstractStringBuilder" "value" "[B" (.ref ar)) :
    Con [] false l Z own_EL n0 [] (⟨"java/lang/AbstractStringBuilder", "getValue", "()[B"⟩ : MethodName) B38 1 (some (.array .byte)) ({ frames := 0, cells := 0, slots := 0, locals := 0 } : Room) #[(.ref sb)] h (fun v h' sf => v = some (.ref ar) ∧ h = h') := by
  obtain ⟨hw, hEL, hcs, hcz, hfm, hfr, hst, hKn, hus, hss, had, hhi, hlo⟩ := id hX
  refine Con.intro (Ls := #[.val (.ref sb)]) pn38 hEL hO (fun m => rfl) fun C vm T hl X hs => ?_
  have X : On C ({ frames := 0, cells := 0, slots := 0, locals := 0 } : Room) "java/lang/AbstractStringBuilder" B38 1 (some (.array .byte)) "getValue" false Z a0 own_EL n0 vm T h 0 0 := X
  refine X.aload_n i38_0 rfl rfl ?_
  refine X.getfield i38_1 (hw _ wd_43) Via.refl F_v fun T1 X1 => ?_
  exact X1.areturn i38_4 rfl rfl rfl (by decide) (by decide) (fun sf hsf => ⟨rfl, rfl⟩)
theorem c_al (hX : own_Ctx l Z a0 zc fm us ss) (hO : Old Z n0 h) (sb : Addr) (x : Int32) (E_sb : Exa Z h sb "java/lang/StringBuilder") (F_n : Fld Z h sb "java/lang/AbstractStringBuilder" "count" "I" (.int x)) :
    Con [] false l Z own_EL n0 [] (⟨"java/lang/AbstractStringBuilder", "length", "()I"⟩ : MethodName) B39 1 (some .int) ({ frames := 0, cells := 0, slots := 0, locals := 0 } : Room) #[(.ref sb)] h (fun v h' sf => v = some (.int x) ∧ h = h') := by
  obtain ⟨hw, hEL, hcs, hcz, hfm, hfr, hst, hKn, hus, hss, had, hhi, hlo⟩ := id hX
  refine Con.intro (Ls := #[.val (.ref sb)]) pn39 hEL hO (fun m => rfl) fun C vm T hl X hs => ?_
  have X : On C ({ frames := 0, cells := 0, slots := 0, locals := 0 } : Room) "java/lang/AbstractStringBuilder" B39 1 (some .int) "length" false Z a0 own_EL n0 vm T h 0 0 := X
  refine X.aload_n i39_0 rfl rfl ?_
  refine X.getfield i39_1 (hw _ wd_68) Via.refl F_n fun T1 X1 => ?_
  exact X1.ireturn i39_4 (t := .int) rfl (by decide) rfl (by decide) (by decide) (fun sf hsf => ⟨rfl, rfl⟩)
theorem c_sl (hX : own_Ctx l Z a0 zc fm us ss) (hO : Old Z n0 h) (sb : Addr) (x : Int32) (E_sb : Exa Z h sb "java/lang/StringBuilder") (F_n : Fld Z h sb "java/lang/AbstractStringBuilder" "count" "I" (.int x)) :
    Con [] false l Z own_EL n0 [] (⟨"java/lang/StringBuilder", "length", "()I"⟩ : MethodName) B40 1 (some .int) ({ frames := 1, cells := 0, slots := 0, locals := 12 } : Room) #[(.ref sb)] h (fun v h' sf => v = some (.int x) ∧ h = h') := by
  obtain ⟨hw, hEL, hcs, hcz, hfm, hfr, hst, hKn, hus, hss, had, hhi, hlo⟩ := id hX
  refine Con.intro (Ls := #[.val (.ref sb)]) pn40 hEL hO (fun m => rfl) fun C vm T hl X hs => ?_
  have X : On C ({ frames := 1, cells := 0, slots := 0, locals := 12 } : Room) "java/lang/StringBuilder" B40 1 (some .int) "length" false Z a0 own_EL n0 vm T h 0 0 := X
  refine X.aload_n i40_0 rfl rfl ?_
  refine X.callU hl (argsL := []) (a := sb) i40_1 (c_al hX X.old sb x E_sb F_n) E_sb (hw _ wd_142) (sameOf (hw _ wd_137) (by decide) (hw _ wd_73) rfl) (hw _ wd_138) (hw _ wd_54) (by decide) (hw _ wd_39) (hw _ wd_143) sf_nil pd26 rfl rfl rfl (W := 0) rfl (by decide) (by decide) (k' := 0) rfl (n' := 0) rfl (by decide) (by decide) fun vm1 T1 h1 v1 X1 r1 Q1 => ?_
  obtain ⟨rfl, rfl⟩ := Q1
  show Go _ _ _ _ _ _ _ _ _ _ [(.int x)]
  exact X1.ireturn i40_4 (t := .int) rfl (by decide) rfl (by decide) (by decide) (fun sf hsf => ⟨rfl, rfl⟩)
theorem c_chk (hX : own_Ctx l Z a0 zc fm us ss) (hO : Old Z n0 h) (m : Nat) (hm : m ≤ 4000) :
    Con [] false l Z own_EL n0 [] (⟨"java/util/Arrays", "checkLength", "(II)V"⟩ : MethodName) B41 2 none ({ frames := 0, cells := 0, slots := 0, locals := 0 } : Room) #[(.int (0 : Int32)), (.int (Int32.ofNat m))] h (fun v h' sf => v = none ∧ h = h') := by
  obtain ⟨hw, hEL, hcs, hcz, hfm, hfr, hst, hKn, hus, hss, had, hhi, hlo⟩ := id hX
  refine Con.intro (Ls := #[.val (.int (0 : Int32)), .val (.int (Int32.ofNat m))]) pn41 hEL hO (fun m => rfl) fun C vm T hl X hs => ?_
  have X : On C ({ frames := 0, cells := 0, slots := 0, locals := 0 } : Room) "java/util/Arrays" B41 2 none "checkLength" false Z a0 own_EL n0 vm T h 0 0 := X
  refine X.iload_n i41_0 rfl ?_
  refine X.iload_n i41_1 rfl ?_
  refine X.icY i41_2 j2_35 (XT.ii_ge_t (own_nn hm)) ?_
  exact X.ret i41_37 rfl (by decide) (by decide) (fun sf hsf => ⟨rfl, rfl⟩)
theorem c_crbL (hX : own_Ctx l Z a0 zc fm us ss) (hO : Old Z n0 h) (ar : Addr) (ka : ClassId) (vs : List Value) (m : Nat) (V_ar : Arv Z h ar ka .byte (34 : Int32) vs (.int (0 : Int32))) (hv : vs.length = m) (hm : m ≤ 22) :
    Con [] false l Z own_EL n0 [] (⟨"java/util/Arrays", "copyOfRangeByte", "([BII)[B"⟩ : MethodName) B42 5 (some (.array .byte)) ({ frames := 1, cells := 1, slots := 22, locals := 18 } : Room) #[(.ref ar), (.int (0 : Int32)), (.int (Int32.ofNat m))] h (fun v h' sf => ∃ (r : Addr) (kr : ClassId), v = some (.ref r) ∧ Ext h h' ∧ h.size ≤ r ∧ Arv Z h' r kr .byte (Int32.ofNat m) vs (.int (0 : Int32))) := by
  obtain ⟨hw, hEL, hcs, hcz, hfm, hfr, hst, hKn, hus, hss, had, hhi, hlo⟩ := id hX
  refine Con.intro (Ls := #[.val (.ref ar), .val (.int (0 : Int32)), .val (.int (Int32.ofNat m)), .unset, .unset]) pn42 hEL hO (fun m => rfl) fun C vm T hl X hs => ?_
  have X : On C ({ frames := 1, cells := 1, slots := 22, locals := 18 } : Room) "java/util/Arrays" B42 5 (some (.array .byte)) "copyOfRangeByte" false Z a0 own_EL n0 vm T h 0 0 := X
  refine X.iload_n i42_0 rfl ?_
  refine X.iload_n i42_1 rfl ?_
  refine X.callS hl (argsL := [(.int (0 : Int32)), (.int (Int32.ofNat m))]) i42_2 (c_chk hX X.old m (by omega)) (hw _ wd_155) (hw _ wd_156) (hw _ wd_113) (hw _ wd_157) (by decide) sf_nil pd27 rfl rfl rfl (W := 0) rfl (by decide) (by decide) (k' := 0) rfl (n' := 0) rfl (by decide) (by decide) fun vm1 T1 h1 v1 X1 r1 Q1 => ?_
  obtain ⟨rfl, rfl⟩ := Q1
  show Go _ _ _ _ _ _ _ _ _ _ []
  refine X1.iload_n i42_5 rfl ?_
  refine X1.iload_n i42_6 rfl ?_
  refine X1.isub i42_7 (z := (Int32.ofNat m)) (own_sub0 _) ?_
  refine X1.istore_n i42_8 (Ls' := #[.val (.ref ar), .val (.int (0 : Int32)), .val (.int (Int32.ofNat m)), .val (.int (Int32.ofNat m)), .unset]) rfl ?_
  refine X1.iload_n i42_9 rfl ?_
  refine X1.newarray i42_10 (ty := .byte) rfl (hw _ wd_15) (own_nn8 (by omega)) (cap := 22) (by rw [own_tn8 (by omega)]; exact hm) (by decide) (k' := 1) rfl (n' := 22) rfl (by decide) (by decide) fun T2 h2 a2 c2 X2 E2 z2 g2 V2 Sf2 => ?_
  have V2 : Arv Z h2 a2 c2 .byte (Int32.ofNat m) ([] : List Value) (.int (0 : Int32)) := V2
  refine X2.astore i42_12 rfl (Ls' := #[.val (.ref ar), .val (.int (0 : Int32)), .val (.int (Int32.ofNat m)), .val (.int (Int32.ofNat m)), .val (.ref a2)]) rfl ?_
  refine X2.aload_n i42_14 rfl rfl ?_
  refine X2.iload_n i42_15 rfl ?_
  refine X2.aload i42_16 rfl rfl ?_
  refine X2.iconst i42_18 (z := (0 : Int32)) rfl ?_
  refine X2.aload_n i42_19 rfl rfl ?_
  have V3 := (V_ar.ext E2)
  refine X2.arraylength i42_20 V3 ?_
  refine X2.iload_n i42_21 rfl ?_
  refine X2.isub i42_22 (z := (34 : Int32)) rfl ?_
  refine X2.iload_n i42_23 rfl ?_
  refine X2.callS hl (argsL := [(.int (34 : Int32)), (.int (Int32.ofNat m))]) i42_24 (c_min hX X2.old (34 : Int32) (Int32.ofNat m) ) (hw _ wd_115) (hw _ wd_116) (hw _ wd_107) (hw _ wd_117) (by decide) sf_nil pd22 rfl rfl rfl (W := 4) rfl (by decide) (by decide) (k' := 1) rfl (n' := 22) rfl (by decide) (by decide) fun vm4 T4 h4 v4 X4 r4 Q4 => ?_
  obtain ⟨r_4, rfl, rfl, q4_1⟩ := Q4
  show Go _ _ _ _ _ _ _ _ _ _ [(.int r_4), (.int (0 : Int32)), (.ref a2), (.int (0 : Int32)), (.ref ar)]
  have hr0 := own_minN (N := 34) (n := m) (by decide) (by omega) q4_1
  subst hr0
  have Sf6 := (r4).safe (V2).lt Sf2
  have B5 : Arv Z h2 a2 c2 .byte (Int32.ofNat m) (([] : List Value) ++ List.replicate m (.int (0 : Int32))) (.int (0 : Int32)) := Arv.pad (vs := []) V2 (pad_rep [] (.int (0 : Int32)) m)
  refine X4.arraycopy i42_27 (hw _ wd_118) (hw _ wd_94) (hw _ wd_92) (hw _ wd_93) V3 B5 rfl (by decide) (by decide) (own_nn8 (by omega)) (by rw [own_tn8 (n := m) (by omega)]; show 0 + m ≤ 34; omega) (by rw [own_tn8 (n := m) (by omega)]; show 0 + m ≤ m; omega) rfl (by rw [(own_tn8 (n := m) (by omega))]; show 0 + _ ≤ _; simp) g2 Sf6 rfl (by decide) (W := 0) rfl (by decide) fun T5 h5 X5 K5 V5 => ?_
  have V5 : Arv Z h5 a2 c2 .byte (Int32.ofNat m) vs (.int (0 : Int32)) := V5.pad (own_cp0 vs (.int (0 : Int32)) m (own_tn8 (n := m) (by omega)) (Nat.le_of_eq hv))
  refine X5.aload i42_30 rfl rfl ?_
  exact X5.areturn i42_32 rfl rfl rfl (by decide) (by decide) (fun sf hsf => ⟨a2, c2, rfl, (ext_keep E2 K5 (allS (Nat.le_trans (Nat.le_refl _) (Nat.le_of_eq z2)) all0)), (Nat.le_trans (Nat.le_refl _) (Nat.le_of_eq z2)), V5⟩)
theorem c_crL (hX : own_Ctx l Z a0 zc fm us ss) (hO : Old Z n0 h) (ar : Addr) (ka : ClassId) (vs : List Value) (m : Nat) (V_ar : Arv Z h ar ka .byte (34 : Int32) vs (.int (0 : Int32))) (hv : vs.length = m) (hm : m ≤ 22) :
    Con [] false l Z own_EL n0 [] (⟨"java/util/Arrays", "copyOfRange", "([BII)[B"⟩ : MethodName) B43 3 (some (.array .byte)) ({ frames := 2, cells := 1, slots := 22, locals := 34 } : Room) #[(.ref ar), (.int (0 : Int32)), (.int (Int32.ofNat m))] h (fun v h' sf => ∃ (r : Addr) (kr : ClassId), v = some (.ref r) ∧ Ext h h' ∧ h.size ≤ r ∧ Arv Z h' r kr .byte (Int32.ofNat m) vs (.int (0 : Int32))) := by
  obtain ⟨hw, hEL, hcs, hcz, hfm, hfr, hst, hKn, hus, hss, had, hhi, hlo⟩ := id hX
  refine Con.intro (Ls := #[.val (.ref ar), .val (.int (0 : Int32)), .val (.int (Int32.ofNat m))]) pn43 hEL hO (fun m => rfl) fun C vm T hl X hs => ?_
  have X : On C ({ frames := 2, cells := 1, slots := 22, locals := 34 } : Room) "java/util/Arrays" B43 3 (some (.array .byte)) "copyOfRange" false Z a0 own_EL n0 vm T h 0 0 := X
  refine X.iload_n i43_0 rfl ?_
  refine X.ifN i43_1 (by decide) ?_
  refine X.iload_n i43_4 rfl ?_
  refine X.aload_n i43_5 rfl rfl ?_
  refine X.arraylength i43_6 V_ar ?_
  refine X.icN i43_7 (XT.ii_eq_f (own_ne8 (i := m) (n := 34) (by omega) (by decide))) ?_
  refine X.aload_n i43_10 rfl rfl ?_
  refine X.iload_n i43_11 rfl ?_
  refine X.iload_n i43_12 rfl ?_
  refine X.callS hl (argsL := [(.ref ar), (.int (0 : Int32)), (.int (Int32.ofNat m))]) i43_13 (c_crbL hX X.old ar ka vs m V_ar hv hm) (hw _ wd_152) (hw _ wd_153) (hw _ wd_113) (hw _ wd_154) (by decide) sf_nil pd28 rfl rfl rfl (W := 0) rfl (by decide) (by decide) (k' := 1) rfl (n' := 22) rfl (by decide) (by decide) fun vm1 T1 h1 v1 X1 r1 Q1 => ?_
  obtain ⟨r_1, kr_1, rfl, q1_0, q1_1, q1_2⟩ := Q1
  have g2 := Nat.le_trans X.n0le q1_1
  show Go _ _ _ _ _ _ _ _ _ _ [(.ref r_1)]
  exact X1.areturn i43_16 rfl rfl rfl (by decide) (by decide) (fun sf hsf => ⟨r_1, kr_1, rfl, q1_0, q1_1, q1_2⟩)
theorem c_svL (hX : own_Ctx l Z a0 zc fm us ss) (hO : Old Z n0 h) (x : Addr) (sb : Addr) (ar : Addr) (ka : ClassId) (bs : List Int32) (E_x : Exa Z h x "java/lang/String") (g_x : n0 ≤ x) (F_xv : Fld Z h x "java/lang/String" "value" "[B" .null) (F_xc : Fld Z h x "java/lang/String" "coder" "B" (.int (0 : Int32))) (E_sb : Exa Z h sb "java/lang/StringBuilder") (F_v : Fld Z h sb "java/lang/AbstractStringBuilder" "value" "[B" (.ref ar)) (F_c : Fld Z h sb "java/lang/AbstractStringBuilder" "coder" "B" (.int (0 : Int32))) (F_n : Fld Z h sb "java/lang/AbstractStringBuilder" "count" "I" (.int (Int32.ofNat bs.length))) (V_ar : Arv Z h ar ka .byte (34 : Int32) (bs.map own_f) (.int (0 : Int32))) (lb : bs.length ≤ 22) (hb : ∀ c ∈ bs, ¬ c < 0 ∧ ¬ (255 : Int32) < c) (nex : sb ≠ x) (ney : ar ≠ x) :
    Con [] false l Z own_EL n0 [x] (⟨"java/lang/String", "<init>", "(Ljava/lang/AbstractStringBuilder;Ljava/lang/Void;)V"⟩ : MethodName) B44 5 none ({ frames := 3, cells := 1, slots := 22, locals := 49 } : Room) #[(.ref x), (.ref sb), .null] h (fun v h' sf => ∃ (t : Addr) (kt : ClassId), v = none ∧ Keep h h' [x] ∧ Str Z h' x t kt bs ∧ h.size ≤ t) := by
  obtain ⟨hw, hEL, hcs, hcz, hfm, hfr, hst, hKn, hus, hss, had, hhi, hlo⟩ := id hX
  refine Con.intro (Ls := #[.val (.ref x), .val (.ref sb), .val .null, .unset, .unset]) pn44 hEL hO (fun m => rfl) fun C vm T hl X hs => ?_
  have X : On C ({ frames := 3, cells := 1, slots := 22, locals := 49 } : Room) "java/lang/String" B44 5 none "<init>" false Z a0 own_EL n0 vm T h 0 0 := X
  have sf_x := hs x (List.mem_of_getElem? (i := 0) rfl)
  refine X.aload_n i44_0 rfl rfl ?_
  refine X.initO i44_1 (hw _ wd_11) (hw _ wd_12) (hw _ wd_13) rfl (by decide) (W := 0) rfl (by decide) fun T1 X1 => ?_
  refine X1.aload_n i44_4 rfl rfl ?_
  refine X1.callV hl (argsL := []) (a := sb) i44_5 (c_gv hX X1.old sb ar F_v) E_sb (hw _ wd_131) (hw _ wd_132) (hw _ wd_134) (nfSel X1.zw (hw _ wd_134)) (hw _ wd_133) (hw _ wd_39) (hw _ wd_135) (by decide) sf_nil pd29 rfl rfl rfl (W := 0) rfl (by decide) (by decide) (k' := 0) rfl (n' := 0) rfl (by decide) (by decide) fun vm2 T2 h2 v2 X2 r2 Q2 => ?_
  obtain ⟨rfl, rfl⟩ := Q2
  show Go _ _ _ _ _ _ _ _ _ _ [(.ref ar)]
  refine X2.astore_n i44_8 rfl (Ls' := #[.val (.ref x), .val (.ref sb), .val .null, .val (.ref ar), .unset]) rfl ?_
  refine X2.aload_n i44_9 rfl rfl ?_
  refine X2.callV hl (argsL := []) (a := sb) i44_10 (c_sl hX X2.old sb (Int32.ofNat bs.length) E_sb F_n) E_sb (hw _ wd_136) (hw _ wd_137) (hw _ wd_139) (nfOf X2.zw (hw _ wd_73) rfl) (hw _ wd_140) (hw _ wd_31) (hw _ wd_141) (by decide) sf_nil pd26 rfl rfl rfl (W := 0) rfl (by decide) (by decide) (k' := 0) rfl (n' := 0) rfl (by decide) (by decide) fun vm3 T3 h3 v3 X3 r3 Q3 => ?_
  obtain ⟨rfl, rfl⟩ := Q3
  show Go _ _ _ _ _ _ _ _ _ _ [(.int (Int32.ofNat bs.length))]
  refine X3.istore i44_13 (Ls' := #[.val (.ref x), .val (.ref sb), .val .null, .val (.ref ar), .val (.int (Int32.ofNat bs.length))]) rfl ?_
  refine X3.aload_n i44_15 rfl rfl ?_
  refine X3.callV hl (argsL := []) (a := sb) i44_16 (c_il hX X3.old sb F_c) E_sb (hw _ wd_144) (hw _ wd_145) (hw _ wd_147) (nfSel X3.zw (hw _ wd_147)) (hw _ wd_146) (hw _ wd_39) (hw _ wd_148) (by decide) sf_nil pd24 rfl rfl rfl (W := 0) rfl (by decide) (by decide) (k' := 0) rfl (n' := 0) rfl (by decide) (by decide) fun vm4 T4 h4 v4 X4 r4 Q4 => ?_
  obtain ⟨rfl, rfl⟩ := Q4
  show Go _ _ _ _ _ _ _ _ _ _ [(.int (1 : Int32))]
  refine X4.ifN i44_19 (by decide) ?_
  refine X4.aload_n i44_22 rfl rfl ?_
  refine X4.iconst i44_23 (z := (0 : Int32)) rfl ?_
  have Sf6 := (((r2).trans r3).trans r4).safe (E_x).lt sf_x
  refine X4.putfield i44_24 (hw _ wd_21) Via.refl F_xc E_x (Or.inr ⟨(hw _ wd_17), rfl, rfl⟩) (hw _ wd_1) (ty := .byte) (by decide) rfl rfl g_x Sf6 fun T5 h5 X5 W5 => ?_
  refine X5.aload_n i44_27 rfl rfl ?_
  refine X5.aload_n i44_28 rfl rfl ?_
  refine X5.iconst i44_29 (z := (0 : Int32)) rfl ?_
  refine X5.iload i44_30 rfl ?_
  have V7 := (V_ar.other W5 ney)
  refine X5.callS hl (argsL := [(.ref ar), (.int (0 : Int32)), (.int (Int32.ofNat bs.length))]) i44_32 (c_crL hX X5.old ar ka (bs.map own_f) bs.length V7 (List.length_map ..) lb) (hw _ wd_149) (hw _ wd_150) (hw _ wd_113) (hw _ wd_151) (by decide) sf_nil pd28 rfl rfl rfl (W := 1) rfl (by decide) (by decide) (k' := 1) rfl (n' := 22) rfl (by decide) (by decide) fun vm8 T8 h8 v8 X8 r8 Q8 => ?_
  obtain ⟨r_8, kr_8, rfl, q8_0, q8_1, q8_2⟩ := Q8
  have g9 := Nat.le_trans X5.n0le q8_1
  show Go _ _ _ _ _ _ _ _ _ _ [(.ref r_8), (.ref x)]
  have F10 := ((F_xv.other W5 (Or.inr (slot_ne (Or.inr (hw _ wd_16)) (Or.inr (hw _ wd_17)) (by decide) (t := (.array .byte)) (t' := .byte) (by decide) (by decide)))).ext q8_0)
  have E11 := ((E_x.wr W5).ext q8_0)
  have Sf13 := (((CHr.wr W5 Sf6 X4.chv)).trans r8).safe (Nat.lt_of_lt_of_le (Nat.lt_of_lt_of_le (Nat.lt_of_lt_of_le (F_xv).lt (Nat.le_refl _)) (Nat.le_refl _)) (Nat.le_refl _)) Sf6
  refine X8.putfield i44_35 (hw _ wd_20) Via.refl F10 E11 (Or.inr ⟨(hw _ wd_16), rfl, rfl⟩) (hw _ wd_1) (ty := (.array .byte)) (by decide) rfl rfl g_x Sf13 fun T12 h12 X12 W12 => ?_
  refine X12.goto i44_38 j38_59 ?_
  have E14 := (E11.wr W12)
  have F15 := (((F_xc.same W5).ext q8_0).other W12 (Or.inr (slot_ne (Or.inr (hw _ wd_17)) (Or.inr (hw _ wd_16)) (by decide) (t := .byte) (t' := (.array .byte)) (by decide) (by decide))))
  have V16 := (q8_2.other W12 (Nat.ne_of_gt (Nat.lt_of_lt_of_le ((F_xc.same W5)).lt q8_1)))
  exact X12.ret i44_97 rfl (by decide) (by decide) (fun sf hsf => ⟨r_8, kr_8, rfl, ((((Keep.refl _ [x]).wr W5 (Or.inl (List.mem_of_getElem? (i := 0) rfl))).ext q8_0).wr W12 (Or.inl (List.mem_of_getElem? (i := 0) rfl))), ⟨E14, (F10.same W12), F15, V16, hb⟩, (Nat.le_trans (Nat.le_refl _) (Nat.le_trans (Nat.le_refl _) (Nat.le_trans (Nat.le_refl _) (Nat.le_trans (Keep.of_wr W5).1 q8_1))))⟩)
theorem c_sbL (hX : own_Ctx l Z a0 zc fm us ss) (hO : Old Z n0 h) (x : Addr) (sb : Addr) (ar : Addr) (ka : ClassId) (bs : List Int32) (E_x : Exa Z h x "java/lang/String") (g_x : n0 ≤ x) (F_xv : Fld Z h x "java/lang/String" "value" "[B" .null) (F_xc : Fld Z h x "java/lang/String" "coder" "B" (.int (0 : Int32))) (E_sb : Exa Z h sb "java/lang/StringBuilder") (F_v : Fld Z h sb "java/lang/AbstractStringBuilder" "value" "[B" (.ref ar)) (F_c : Fld Z h sb "java/lang/AbstractStringBuilder" "coder" "B" (.int (0 : Int32))) (F_n : Fld Z h sb "java/lang/AbstractStringBuilder" "count" "I" (.int (Int32.ofNat bs.length))) (V_ar : Arv Z h ar ka .byte (34 : Int32) (bs.map own_f) (.int (0 : Int32))) (lb : bs.length ≤ 22) (hb : ∀ c ∈ bs, ¬ c < 0 ∧ ¬ (255 : Int32) < c) (nex : sb ≠ x) (ney : ar ≠ x) :
    Con [] false l Z own_EL n0 [x] (⟨"java/lang/String", "<init>", "(Ljava/lang/StringBuilder;)V"⟩ : MethodName) B45 2 none ({ frames := 4, cells := 1, slots := 22, locals := 65 } : Room) #[(.ref x), (.ref sb)] h (fun v h' sf => ∃ (t : Addr) (kt : ClassId), v = none ∧ Keep h h' [x] ∧ Str Z h' x t kt bs ∧ h.size ≤ t) := by
  obtain ⟨hw, hEL, hcs, hcz, hfm, hfr, hst, hKn, hus, hss, had, hhi, hlo⟩ := id hX
  refine Con.intro (Ls := #[.val (.ref x), .val (.ref sb)]) pn45 hEL hO (fun m => rfl) fun C vm T hl X hs => ?_
  have X : On C ({ frames := 4, cells := 1, slots := 22, locals := 65 } : Room) "java/lang/String" B45 2 none "<init>" false Z a0 own_EL n0 vm T h 0 0 := X
  have sf_x := hs x (List.mem_of_getElem? (i := 0) rfl)
  refine X.aload_n i45_0 rfl rfl ?_
  refine X.aload_n i45_1 rfl rfl ?_
  refine X.aconst_null i45_2 ?_
  refine X.callI hl (argsL := [(.ref sb), .null]) (a := x) i45_3 (c_svL hX X.old x sb ar ka bs E_x g_x F_xv F_xc E_sb F_v F_c F_n V_ar lb hb nex ney) (hw _ wd_128) (hw _ wd_129) (hw _ wd_2) (hw _ wd_130) rfl (by decide) (sf_cons ⟨sf_x, (E_x).lt⟩ sf_nil) pd30 rfl rfl rfl (W := 0) rfl (by decide) (by decide) (k' := 1) rfl (n' := 22) rfl (by decide) (by decide) fun vm1 T1 h1 v1 X1 r1 Q1 => ?_
  obtain ⟨t_1, kt_1, rfl, q1_0, q1_1, q1_2⟩ := Q1
  have g2 := Nat.le_trans X.n0le q1_2
  show Go _ _ _ _ _ _ _ _ _ _ []
  exact X1.ret i45_6 rfl (by decide) (by decide) (fun sf hsf => ⟨t_1, kt_1, rfl, ((Keep.refl _ [x]).trans q1_0 (allS (Or.inl (List.mem_of_getElem? (i := 0) rfl)) all0)), q1_1, q1_2⟩)
theorem c_tsL (hX : own_Ctx l Z a0 zc fm us ss) (hO : Old Z n0 h) (sb : Addr) (ar : Addr) (ka : ClassId) (bs : List Int32) (E_sb : Exa Z h sb "java/lang/StringBuilder") (F_v : Fld Z h sb "java/lang/AbstractStringBuilder" "value" "[B" (.ref ar)) (F_c : Fld Z h sb "java/lang/AbstractStringBuilder" "coder" "B" (.int (0 : Int32))) (F_n : Fld Z h sb "java/lang/AbstractStringBuilder" "count" "I" (.int (Int32.ofNat bs.length))) (V_ar : Arv Z h ar ka .byte (34 : Int32) (bs.map own_f) (.int (0 : Int32))) (lb : bs.length ≤ 22) (hb : ∀ c ∈ bs, ¬ c < 0 ∧ ¬ (255 : Int32) < c) :
    Con [] false l Z own_EL n0 [] (⟨"java/lang/StringBuilder", "toString", "()Ljava/lang/String;"⟩ : MethodName) B46 1 (some (.object "java/lang/String")) ({ frames := 5, cells := 2, slots := 26, locals := 79 } : Room) #[(.ref sb)] h (fun v h' sf => ∃ (x : Addr) (t : Addr) (kt : ClassId), v = some (.ref x) ∧ Ext h h' ∧ h.size ≤ x ∧ Str Z h' x t kt bs ∧ h.size ≤ t) := by
  obtain ⟨hw, hEL, hcs, hcz, hfm, hfr, hst, hKn, hus, hss, had, hhi, hlo⟩ := id hX
  refine Con.intro (Ls := #[.val (.ref sb)]) pn46 hEL hO (fun m => rfl) fun C vm T hl X hs => ?_
  have X : On C ({ frames := 5, cells := 2, slots := 26, locals := 79 } : Room) "java/lang/StringBuilder" B46 1 (some (.object "java/lang/String")) "toString" false Z a0 own_EL n0 vm T h 0 0 := X
  refine X.new i46_0 (hw _ wd_124) (hw _ wd_1) (hw _ wd_2) (k' := 1) rfl (n' := 4) rfl (by decide) (by decide) fun T1 h1 a1 X1 E1 z1 g1 A1 D1 U1 Sf1 => ?_
  refine X1.dup i46_3 rfl ?_
  refine X1.aload_n i46_4 rfl rfl ?_
  have F2 : Fld Z h1 a1 "java/lang/String" "value" "[B" .null := D1 (Or.inr (hw _ wd_16)) (ty := (.array .byte)) (by decide)
  have F3 : Fld Z h1 a1 "java/lang/String" "coder" "B" (.int (0 : Int32)) := D1 (Or.inr (hw _ wd_17)) (ty := .byte) (by decide)
  have E4 := (E_sb.ext E1)
  have F5 := (F_v.ext E1)
  have F6 := (F_c.ext E1)
  have F7 := (F_n.ext E1)
  have V8 := (V_ar.ext E1)
  refine X1.callI hl (argsL := [(.ref sb)]) (a := a1) i46_5 (c_sbL hX X1.old a1 sb ar ka bs A1 g1 F2 F3 E4 F5 F6 F7 V8 lb hb (Nat.ne_of_lt (Nat.lt_of_lt_of_le (E_sb).lt (Nat.le_of_eq z1))) (Nat.ne_of_lt (Nat.lt_of_lt_of_le (V_ar).lt (Nat.le_of_eq z1)))) (hw _ wd_125) (hw _ wd_126) (hw _ wd_2) (hw _ wd_127) rfl (by decide) (sf_cons ⟨Sf1, (A1).lt⟩ sf_nil) pd31 rfl rfl rfl (W := 1) rfl (by decide) (by decide) (k' := 2) rfl (n' := 26) rfl (by decide) (by decide) fun vm9 T9 h9 v9 X9 r9 Q9 => ?_
  obtain ⟨t_9, kt_9, rfl, q9_0, q9_1, q9_2⟩ := Q9
  have g10 := Nat.le_trans X1.n0le q9_2
  show Go _ _ _ _ _ _ _ _ _ _ [(.ref a1)]
  exact X9.areturn i46_8 rfl rfl rfl (by decide) (by decide) (fun sf hsf => ⟨a1, t_9, kt_9, rfl, (ext_keep E1 q9_0 (allS (Nat.le_of_eq z1) all0)), (Nat.le_of_eq z1), q9_1, (Nat.le_trans E1.1 q9_2)⟩)
theorem c_crbW (hX : own_Ctx l Z a0 zc fm us ss) (hO : Old Z n0 h) (ar : Addr) (ka : ClassId) (vs : List Value) (m : Nat) (V_ar : Arv Z h ar ka .byte (68 : Int32) vs (.int (0 : Int32))) (hv : vs.length = m) (hm : m ≤ 44) :
    Con [] false l Z own_EL n0 [] (⟨"java/util/Arrays", "copyOfRangeByte", "([BII)[B"⟩ : MethodName) B42 5 (some (.array .byte)) ({ frames := 1, cells := 1, slots := 44, locals := 18 } : Room) #[(.ref ar), (.int (0 : Int32)), (.int (Int32.ofNat m))] h (fun v h' sf => ∃ (r : Addr) (kr : ClassId), v = some (.ref r) ∧ Ext h h' ∧ h.size ≤ r ∧ Arv Z h' r kr .byte (Int32.ofNat m) vs (.int (0 : Int32))) := by
  obtain ⟨hw, hEL, hcs, hcz, hfm, hfr, hst, hKn, hus, hss, had, hhi, hlo⟩ := id hX
  refine Con.intro (Ls := #[.val (.ref ar), .val (.int (0 : Int32)), .val (.int (Int32.ofNat m)), .unset, .unset]) pn42 hEL hO (fun m => rfl) fun C vm T hl X hs => ?_
  have X : On C ({ frames := 1, cells := 1, slots := 44, locals := 18 } : Room) "java/util/Arrays" B42 5 (some (.array .byte)) "copyOfRangeByte" false Z a0 own_EL n0 vm T h 0 0 := X
  refine X.iload_n i42_0 rfl ?_
  refine X.iload_n i42_1 rfl ?_
  refine X.callS hl (argsL := [(.int (0 : Int32)), (.int (Int32.ofNat m))]) i42_2 (c_chk hX X.old m (by omega)) (hw _ wd_155) (hw _ wd_156) (hw _ wd_113) (hw _ wd_157) (by decide) sf_nil pd27 rfl rfl rfl (W := 0) rfl (by decide) (by decide) (k' := 0) rfl (n' := 0) rfl (by decide) (by decide) fun vm1 T1 h1 v1 X1 r1 Q1 => ?_
  obtain ⟨rfl, rfl⟩ := Q1
  show Go _ _ _ _ _ _ _ _ _ _ []
  refine X1.iload_n i42_5 rfl ?_
  refine X1.iload_n i42_6 rfl ?_
  refine X1.isub i42_7 (z := (Int32.ofNat m)) (own_sub0 _) ?_
  refine X1.istore_n i42_8 (Ls' := #[.val (.ref ar), .val (.int (0 : Int32)), .val (.int (Int32.ofNat m)), .val (.int (Int32.ofNat m)), .unset]) rfl ?_
  refine X1.iload_n i42_9 rfl ?_
  refine X1.newarray i42_10 (ty := .byte) rfl (hw _ wd_15) (own_nn8 (by omega)) (cap := 44) (by rw [own_tn8 (by omega)]; exact hm) (by decide) (k' := 1) rfl (n' := 44) rfl (by decide) (by decide) fun T2 h2 a2 c2 X2 E2 z2 g2 V2 Sf2 => ?_
  have V2 : Arv Z h2 a2 c2 .byte (Int32.ofNat m) ([] : List Value) (.int (0 : Int32)) := V2
  refine X2.astore i42_12 rfl (Ls' := #[.val (.ref ar), .val (.int (0 : Int32)), .val (.int (Int32.ofNat m)), .val (.int (Int32.ofNat m)), .val (.ref a2)]) rfl ?_
  refine X2.aload_n i42_14 rfl rfl ?_
  refine X2.iload_n i42_15 rfl ?_
  refine X2.aload i42_16 rfl rfl ?_
  refine X2.iconst i42_18 (z := (0 : Int32)) rfl ?_
  refine X2.aload_n i42_19 rfl rfl ?_
  have V3 := (V_ar.ext E2)
  refine X2.arraylength i42_20 V3 ?_
  refine X2.iload_n i42_21 rfl ?_
  refine X2.isub i42_22 (z := (68 : Int32)) rfl ?_
  refine X2.iload_n i42_23 rfl ?_
  refine X2.callS hl (argsL := [(.int (68 : Int32)), (.int (Int32.ofNat m))]) i42_24 (c_min hX X2.old (68 : Int32) (Int32.ofNat m) ) (hw _ wd_115) (hw _ wd_116) (hw _ wd_107) (hw _ wd_117) (by decide) sf_nil pd22 rfl rfl rfl (W := 4) rfl (by decide) (by decide) (k' := 1) rfl (n' := 44) rfl (by decide) (by decide) fun vm4 T4 h4 v4 X4 r4 Q4 => ?_
  obtain ⟨r_4, rfl, rfl, q4_1⟩ := Q4
  show Go _ _ _ _ _ _ _ _ _ _ [(.int r_4), (.int (0 : Int32)), (.ref a2), (.int (0 : Int32)), (.ref ar)]
  have hr0 := own_minN (N := 68) (n := m) (by decide) (by omega) q4_1
  subst hr0
  have Sf6 := (r4).safe (V2).lt Sf2
  have B5 : Arv Z h2 a2 c2 .byte (Int32.ofNat m) (([] : List Value) ++ List.replicate m (.int (0 : Int32))) (.int (0 : Int32)) := Arv.pad (vs := []) V2 (pad_rep [] (.int (0 : Int32)) m)
  refine X4.arraycopy i42_27 (hw _ wd_118) (hw _ wd_94) (hw _ wd_92) (hw _ wd_93) V3 B5 rfl (by decide) (by decide) (own_nn8 (by omega)) (by rw [own_tn8 (n := m) (by omega)]; show 0 + m ≤ 68; omega) (by rw [own_tn8 (n := m) (by omega)]; show 0 + m ≤ m; omega) rfl (by rw [(own_tn8 (n := m) (by omega))]; show 0 + _ ≤ _; simp) g2 Sf6 rfl (by decide) (W := 0) rfl (by decide) fun T5 h5 X5 K5 V5 => ?_
  have V5 : Arv Z h5 a2 c2 .byte (Int32.ofNat m) vs (.int (0 : Int32)) := V5.pad (own_cp0 vs (.int (0 : Int32)) m (own_tn8 (n := m) (by omega)) (Nat.le_of_eq hv))
  refine X5.aload i42_30 rfl rfl ?_
  exact X5.areturn i42_32 rfl rfl rfl (by decide) (by decide) (fun sf hsf => ⟨a2, c2, rfl, (ext_keep E2 K5 (allS (Nat.le_trans (Nat.le_refl _) (Nat.le_of_eq z2)) all0)), (Nat.le_trans (Nat.le_refl _) (Nat.le_of_eq z2)), V5⟩)
theorem c_crW (hX : own_Ctx l Z a0 zc fm us ss) (hO : Old Z n0 h) (ar : Addr) (ka : ClassId) (vs : List Value) (m : Nat) (V_ar : Arv Z h ar ka .byte (68 : Int32) vs (.int (0 : Int32))) (hv : vs.length = m) (hm : m ≤ 44) :
    Con [] false l Z own_EL n0 [] (⟨"java/util/Arrays", "copyOfRange", "([BII)[B"⟩ : MethodName) B43 3 (some (.array .byte)) ({ frames := 2, cells := 1, slots := 44, locals := 34 } : Room) #[(.ref ar), (.int (0 : Int32)), (.int (Int32.ofNat m))] h (fun v h' sf => ∃ (r : Addr) (kr : ClassId), v = some (.ref r) ∧ Ext h h' ∧ h.size ≤ r ∧ Arv Z h' r kr .byte (Int32.ofNat m) vs (.int (0 : Int32))) := by
  obtain ⟨hw, hEL, hcs, hcz, hfm, hfr, hst, hKn, hus, hss, had, hhi, hlo⟩ := id hX
  refine Con.intro (Ls := #[.val (.ref ar), .val (.int (0 : Int32)), .val (.int (Int32.ofNat m))]) pn43 hEL hO (fun m => rfl) fun C vm T hl X hs => ?_
  have X : On C ({ frames := 2, cells := 1, slots := 44, locals := 34 } : Room) "java/util/Arrays" B43 3 (some (.array .byte)) "copyOfRange" false Z a0 own_EL n0 vm T h 0 0 := X
  refine X.iload_n i43_0 rfl ?_
  refine X.ifN i43_1 (by decide) ?_
  refine X.iload_n i43_4 rfl ?_
  refine X.aload_n i43_5 rfl rfl ?_
  refine X.arraylength i43_6 V_ar ?_
  refine X.icN i43_7 (XT.ii_eq_f (own_ne8 (i := m) (n := 68) (by omega) (by decide))) ?_
  refine X.aload_n i43_10 rfl rfl ?_
  refine X.iload_n i43_11 rfl ?_
  refine X.iload_n i43_12 rfl ?_
  refine X.callS hl (argsL := [(.ref ar), (.int (0 : Int32)), (.int (Int32.ofNat m))]) i43_13 (c_crbW hX X.old ar ka vs m V_ar hv hm) (hw _ wd_152) (hw _ wd_153) (hw _ wd_113) (hw _ wd_154) (by decide) sf_nil pd28 rfl rfl rfl (W := 0) rfl (by decide) (by decide) (k' := 1) rfl (n' := 44) rfl (by decide) (by decide) fun vm1 T1 h1 v1 X1 r1 Q1 => ?_
  obtain ⟨r_1, kr_1, rfl, q1_0, q1_1, q1_2⟩ := Q1
  have g2 := Nat.le_trans X.n0le q1_1
  show Go _ _ _ _ _ _ _ _ _ _ [(.ref r_1)]
  exact X1.areturn i43_16 rfl rfl rfl (by decide) (by decide) (fun sf hsf => ⟨r_1, kr_1, rfl, q1_0, q1_1, q1_2⟩)
theorem c_svW (hX : own_Ctx l Z a0 zc fm us ss) (hO : Old Z n0 h) (x : Addr) (sb : Addr) (ar : Addr) (ka : ClassId) (bs : List Int32) (E_x : Exa Z h x "java/lang/String") (g_x : n0 ≤ x) (F_xv : Fld Z h x "java/lang/String" "value" "[B" .null) (F_xc : Fld Z h x "java/lang/String" "coder" "B" (.int (0 : Int32))) (E_sb : Exa Z h sb "java/lang/StringBuilder") (F_v : Fld Z h sb "java/lang/AbstractStringBuilder" "value" "[B" (.ref ar)) (F_c : Fld Z h sb "java/lang/AbstractStringBuilder" "coder" "B" (.int (1 : Int32))) (F_n : Fld Z h sb "java/lang/AbstractStringBuilder" "count" "I" (.int (Int32.ofNat bs.length))) (V_ar : Arv Z h ar ka .byte (Int32.ofNat (2 * 34)) (own_wb bs) (.int (0 : Int32))) (F_m : Fld Z h sb "java/lang/AbstractStringBuilder" "maybeLatin1" "Z" (.int (0 : Int32))) (lb : bs.length ≤ 22) (nex : sb ≠ x) (ney : ar ≠ x) :
    Con [] false l Z own_EL n0 [x] (⟨"java/lang/String", "<init>", "(Ljava/lang/AbstractStringBuilder;Ljava/lang/Void;)V"⟩ : MethodName) B44 5 none ({ frames := 3, cells := 1, slots := 44, locals := 49 } : Room) #[(.ref x), (.ref sb), .null] h (fun v h' sf => ∃ (t : Addr) (kt : ClassId), v = none ∧ Keep h h' [x] ∧ Exa Z h' x "java/lang/String" ∧ Fld Z h' x "java/lang/String" "value" "[B" (.ref t) ∧ Fld Z h' x "java/lang/String" "coder" "B" (.int (1 : Int32)) ∧ Arv Z h' t kt .byte (Int32.ofNat (2 * bs.length)) (own_wb bs) (.int (0 : Int32)) ∧ h.size ≤ t) := by
  obtain ⟨hw, hEL, hcs, hcz, hfm, hfr, hst, hKn, hus, hss, had, hhi, hlo⟩ := id hX
  refine Con.intro (Ls := #[.val (.ref x), .val (.ref sb), .val .null, .unset, .unset]) pn44 hEL hO (fun m => rfl) fun C vm T hl X hs => ?_
  have X : On C ({ frames := 3, cells := 1, slots := 44, locals := 49 } : Room) "java/lang/String" B44 5 none "<init>" false Z a0 own_EL n0 vm T h 0 0 := X
  have sf_x := hs x (List.mem_of_getElem? (i := 0) rfl)
  refine X.aload_n i44_0 rfl rfl ?_
  refine X.initO i44_1 (hw _ wd_11) (hw _ wd_12) (hw _ wd_13) rfl (by decide) (W := 0) rfl (by decide) fun T1 X1 => ?_
  refine X1.aload_n i44_4 rfl rfl ?_
  refine X1.callV hl (argsL := []) (a := sb) i44_5 (c_gv hX X1.old sb ar F_v) E_sb (hw _ wd_131) (hw _ wd_132) (hw _ wd_134) (nfSel X1.zw (hw _ wd_134)) (hw _ wd_133) (hw _ wd_39) (hw _ wd_135) (by decide) sf_nil pd29 rfl rfl rfl (W := 0) rfl (by decide) (by decide) (k' := 0) rfl (n' := 0) rfl (by decide) (by decide) fun vm2 T2 h2 v2 X2 r2 Q2 => ?_
  obtain ⟨rfl, rfl⟩ := Q2
  show Go _ _ _ _ _ _ _ _ _ _ [(.ref ar)]
  refine X2.astore_n i44_8 rfl (Ls' := #[.val (.ref x), .val (.ref sb), .val .null, .val (.ref ar), .unset]) rfl ?_
  refine X2.aload_n i44_9 rfl rfl ?_
  refine X2.callV hl (argsL := []) (a := sb) i44_10 (c_sl hX X2.old sb (Int32.ofNat bs.length) E_sb F_n) E_sb (hw _ wd_136) (hw _ wd_137) (hw _ wd_139) (nfOf X2.zw (hw _ wd_73) rfl) (hw _ wd_140) (hw _ wd_31) (hw _ wd_141) (by decide) sf_nil pd26 rfl rfl rfl (W := 0) rfl (by decide) (by decide) (k' := 0) rfl (n' := 0) rfl (by decide) (by decide) fun vm3 T3 h3 v3 X3 r3 Q3 => ?_
  obtain ⟨rfl, rfl⟩ := Q3
  show Go _ _ _ _ _ _ _ _ _ _ [(.int (Int32.ofNat bs.length))]
  refine X3.istore i44_13 (Ls' := #[.val (.ref x), .val (.ref sb), .val .null, .val (.ref ar), .val (.int (Int32.ofNat bs.length))]) rfl ?_
  refine X3.aload_n i44_15 rfl rfl ?_
  refine X3.callV hl (argsL := []) (a := sb) i44_16 (c_il0 hX X3.old sb F_c) E_sb (hw _ wd_144) (hw _ wd_145) (hw _ wd_147) (nfSel X3.zw (hw _ wd_147)) (hw _ wd_146) (hw _ wd_39) (hw _ wd_148) (by decide) sf_nil pd24 rfl rfl rfl (W := 0) rfl (by decide) (by decide) (k' := 0) rfl (n' := 0) rfl (by decide) (by decide) fun vm4 T4 h4 v4 X4 r4 Q4 => ?_
  obtain ⟨rfl, rfl⟩ := Q4
  show Go _ _ _ _ _ _ _ _ _ _ [(.int (0 : Int32))]
  refine X4.ifY i44_19 j19_22 (by decide) ?_
  refine X4.getstatic i44_41 (hw _ wd_67) Via.refl (hcs.ext X4.ext0) fun T5 X5 => ?_
  refine X5.ifN i44_44 (XT.i0_eq_f hcz) ?_
  refine X5.aload_n i44_47 rfl rfl ?_
  refine X5.getfield i44_48 (hw _ wd_300) Via.refl F_m fun T6 X6 => ?_
  refine X6.ifY i44_51 j51_28 (by decide) ?_
  refine X6.aload_n i44_79 rfl rfl ?_
  refine X6.iconst i44_80 (z := (1 : Int32)) rfl ?_
  have Sf8 := (((r2).trans r3).trans r4).safe (E_x).lt sf_x
  refine X6.putfield i44_81 (hw _ wd_21) Via.refl F_xc E_x (Or.inr ⟨(hw _ wd_17), rfl, rfl⟩) (hw _ wd_1) (ty := .byte) (by decide) rfl rfl g_x Sf8 fun T7 h7 X7 W7 => ?_
  refine X7.aload_n i44_84 rfl rfl ?_
  refine X7.aload_n i44_85 rfl rfl ?_
  refine X7.iconst i44_86 (z := (0 : Int32)) rfl ?_
  refine X7.iload i44_87 rfl ?_
  refine X7.iconst i44_89 (z := (1 : Int32)) rfl ?_
  refine X7.ishl i44_90 (z := (Int32.ofNat (2 * bs.length))) (own_shl1 (by omega)) ?_
  have V9 := (V_ar.other W7 ney)
  refine X7.callS hl (argsL := [(.ref ar), (.int (0 : Int32)), (.int (Int32.ofNat (2 * bs.length)))]) i44_91 (c_crW hX X7.old ar ka (own_wb bs) (2 * bs.length) V9 (own_wbl bs) (by omega)) (hw _ wd_149) (hw _ wd_150) (hw _ wd_113) (hw _ wd_151) (by decide) sf_nil pd28 rfl rfl rfl (W := 1) rfl (by decide) (by decide) (k' := 1) rfl (n' := 44) rfl (by decide) (by decide) fun vm10 T10 h10 v10 X10 r10 Q10 => ?_
  obtain ⟨r_10, kr_10, rfl, q10_0, q10_1, q10_2⟩ := Q10
  have g11 := Nat.le_trans X7.n0le q10_1
  show Go _ _ _ _ _ _ _ _ _ _ [(.ref r_10), (.ref x)]
  have F12 := ((F_xv.other W7 (Or.inr (slot_ne (Or.inr (hw _ wd_16)) (Or.inr (hw _ wd_17)) (by decide) (t := (.array .byte)) (t' := .byte) (by decide) (by decide)))).ext q10_0)
  have E13 := ((E_x.wr W7).ext q10_0)
  have Sf15 := (((CHr.wr W7 Sf8 X6.chv)).trans r10).safe (Nat.lt_of_lt_of_le (Nat.lt_of_lt_of_le (Nat.lt_of_lt_of_le (F_xv).lt (Nat.le_refl _)) (Nat.le_refl _)) (Nat.le_refl _)) Sf8
  refine X10.putfield i44_94 (hw _ wd_20) Via.refl F12 E13 (Or.inr ⟨(hw _ wd_16), rfl, rfl⟩) (hw _ wd_1) (ty := (.array .byte)) (by decide) rfl rfl g_x Sf15 fun T14 h14 X14 W14 => ?_
  have E16 := (E13.wr W14)
  have F17 := (((F_xc.same W7).ext q10_0).other W14 (Or.inr (slot_ne (Or.inr (hw _ wd_17)) (Or.inr (hw _ wd_16)) (by decide) (t := .byte) (t' := (.array .byte)) (by decide) (by decide))))
  have V18 := (q10_2.other W14 (Nat.ne_of_gt (Nat.lt_of_lt_of_le ((F_xc.same W7)).lt q10_1)))
  exact X14.ret i44_97 rfl (by decide) (by decide) (fun sf hsf => ⟨r_10, kr_10, rfl, ((((Keep.refl _ [x]).wr W7 (Or.inl (List.mem_of_getElem? (i := 0) rfl))).ext q10_0).wr W14 (Or.inl (List.mem_of_getElem? (i := 0) rfl))), E16, (F12.same W14), F17, V18, (Nat.le_trans (Nat.le_refl _) (Nat.le_trans (Nat.le_refl _) (Nat.le_trans (Nat.le_refl _) (Nat.le_trans (Keep.of_wr W7).1 q10_1))))⟩)
theorem c_sbW (hX : own_Ctx l Z a0 zc fm us ss) (hO : Old Z n0 h) (x : Addr) (sb : Addr) (ar : Addr) (ka : ClassId) (bs : List Int32) (E_x : Exa Z h x "java/lang/String") (g_x : n0 ≤ x) (F_xv : Fld Z h x "java/lang/String" "value" "[B" .null) (F_xc : Fld Z h x "java/lang/String" "coder" "B" (.int (0 : Int32))) (E_sb : Exa Z h sb "java/lang/StringBuilder") (F_v : Fld Z h sb "java/lang/AbstractStringBuilder" "value" "[B" (.ref ar)) (F_c : Fld Z h sb "java/lang/AbstractStringBuilder" "coder" "B" (.int (1 : Int32))) (F_n : Fld Z h sb "java/lang/AbstractStringBuilder" "count" "I" (.int (Int32.ofNat bs.length))) (V_ar : Arv Z h ar ka .byte (Int32.ofNat (2 * 34)) (own_wb bs) (.int (0 : Int32))) (F_m : Fld Z h sb "java/lang/AbstractStringBuilder" "maybeLatin1" "Z" (.int (0 : Int32))) (lb : bs.length ≤ 22) (nex : sb ≠ x) (ney : ar ≠ x) :
    Con [] false l Z own_EL n0 [x] (⟨"java/lang/String", "<init>", "(Ljava/lang/StringBuilder;)V"⟩ : MethodName) B45 2 none ({ frames := 4, cells := 1, slots := 44, locals := 65 } : Room) #[(.ref x), (.ref sb)] h (fun v h' sf => ∃ (t : Addr) (kt : ClassId), v = none ∧ Keep h h' [x] ∧ Exa Z h' x "java/lang/String" ∧ Fld Z h' x "java/lang/String" "value" "[B" (.ref t) ∧ Fld Z h' x "java/lang/String" "coder" "B" (.int (1 : Int32)) ∧ Arv Z h' t kt .byte (Int32.ofNat (2 * bs.length)) (own_wb bs) (.int (0 : Int32)) ∧ h.size ≤ t) := by
  obtain ⟨hw, hEL, hcs, hcz, hfm, hfr, hst, hKn, hus, hss, had, hhi, hlo⟩ := id hX
  refine Con.intro (Ls := #[.val (.ref x), .val (.ref sb)]) pn45 hEL hO (fun m => rfl) fun C vm T hl X hs => ?_
  have X : On C ({ frames := 4, cells := 1, slots := 44, locals := 65 } : Room) "java/lang/String" B45 2 none "<init>" false Z a0 own_EL n0 vm T h 0 0 := X
  have sf_x := hs x (List.mem_of_getElem? (i := 0) rfl)
  refine X.aload_n i45_0 rfl rfl ?_
  refine X.aload_n i45_1 rfl rfl ?_
  refine X.aconst_null i45_2 ?_
  refine X.callI hl (argsL := [(.ref sb), .null]) (a := x) i45_3 (c_svW hX X.old x sb ar ka bs E_x g_x F_xv F_xc E_sb F_v F_c F_n V_ar F_m lb nex ney) (hw _ wd_128) (hw _ wd_129) (hw _ wd_2) (hw _ wd_130) rfl (by decide) (sf_cons ⟨sf_x, (E_x).lt⟩ sf_nil) pd30 rfl rfl rfl (W := 0) rfl (by decide) (by decide) (k' := 1) rfl (n' := 44) rfl (by decide) (by decide) fun vm1 T1 h1 v1 X1 r1 Q1 => ?_
  obtain ⟨t_1, kt_1, rfl, q1_0, q1_1, q1_2, q1_3, q1_4, q1_5⟩ := Q1
  have g2 := Nat.le_trans X.n0le q1_5
  show Go _ _ _ _ _ _ _ _ _ _ []
  exact X1.ret i45_6 rfl (by decide) (by decide) (fun sf hsf => ⟨t_1, kt_1, rfl, ((Keep.refl _ [x]).trans q1_0 (allS (Or.inl (List.mem_of_getElem? (i := 0) rfl)) all0)), q1_1, q1_2, q1_3, q1_4, q1_5⟩)
theorem c_tsW (hX : own_Ctx l Z a0 zc fm us ss) (hO : Old Z n0 h) (sb : Addr) (ar : Addr) (ka : ClassId) (bs : List Int32) (E_sb : Exa Z h sb "java/lang/StringBuilder") (F_v : Fld Z h sb "java/lang/AbstractStringBuilder" "value" "[B" (.ref ar)) (F_c : Fld Z h sb "java/lang/AbstractStringBuilder" "coder" "B" (.int (1 : Int32))) (F_n : Fld Z h sb "java/lang/AbstractStringBuilder" "count" "I" (.int (Int32.ofNat bs.length))) (V_ar : Arv Z h ar ka .byte (Int32.ofNat (2 * 34)) (own_wb bs) (.int (0 : Int32))) (F_m : Fld Z h sb "java/lang/AbstractStringBuilder" "maybeLatin1" "Z" (.int (0 : Int32))) (lb : bs.length ≤ 22) :
    Con [] false l Z own_EL n0 [] (⟨"java/lang/StringBuilder", "toString", "()Ljava/lang/String;"⟩ : MethodName) B46 1 (some (.object "java/lang/String")) ({ frames := 5, cells := 2, slots := 48, locals := 79 } : Room) #[(.ref sb)] h (fun v h' sf => ∃ (x : Addr) (t : Addr) (kt : ClassId), v = some (.ref x) ∧ Ext h h' ∧ h.size ≤ x ∧ Exa Z h' x "java/lang/String" ∧ Fld Z h' x "java/lang/String" "value" "[B" (.ref t) ∧ Fld Z h' x "java/lang/String" "coder" "B" (.int (1 : Int32)) ∧ Arv Z h' t kt .byte (Int32.ofNat (2 * bs.length)) (own_wb bs) (.int (0 : Int32)) ∧ h.size ≤ t) := by
  obtain ⟨hw, hEL, hcs, hcz, hfm, hfr, hst, hKn, hus, hss, had, hhi, hlo⟩ := id hX
  refine Con.intro (Ls := #[.val (.ref sb)]) pn46 hEL hO (fun m => rfl) fun C vm T hl X hs => ?_
  have X : On C ({ frames := 5, cells := 2, slots := 48, locals := 79 } : Room) "java/lang/StringBuilder" B46 1 (some (.object "java/lang/String")) "toString" false Z a0 own_EL n0 vm T h 0 0 := X
  refine X.new i46_0 (hw _ wd_124) (hw _ wd_1) (hw _ wd_2) (k' := 1) rfl (n' := 4) rfl (by decide) (by decide) fun T1 h1 a1 X1 E1 z1 g1 A1 D1 U1 Sf1 => ?_
  refine X1.dup i46_3 rfl ?_
  refine X1.aload_n i46_4 rfl rfl ?_
  have F2 : Fld Z h1 a1 "java/lang/String" "value" "[B" .null := D1 (Or.inr (hw _ wd_16)) (ty := (.array .byte)) (by decide)
  have F3 : Fld Z h1 a1 "java/lang/String" "coder" "B" (.int (0 : Int32)) := D1 (Or.inr (hw _ wd_17)) (ty := .byte) (by decide)
  have E4 := (E_sb.ext E1)
  have F5 := (F_v.ext E1)
  have F6 := (F_c.ext E1)
  have F7 := (F_n.ext E1)
  have V8 := (V_ar.ext E1)
  have F9 := (F_m.ext E1)
  refine X1.callI hl (argsL := [(.ref sb)]) (a := a1) i46_5 (c_sbW hX X1.old a1 sb ar ka bs A1 g1 F2 F3 E4 F5 F6 F7 V8 F9 lb (Nat.ne_of_lt (Nat.lt_of_lt_of_le (E_sb).lt (Nat.le_of_eq z1))) (Nat.ne_of_lt (Nat.lt_of_lt_of_le (V_ar).lt (Nat.le_of_eq z1)))) (hw _ wd_125) (hw _ wd_126) (hw _ wd_2) (hw _ wd_127) rfl (by decide) (sf_cons ⟨Sf1, (A1).lt⟩ sf_nil) pd31 rfl rfl rfl (W := 1) rfl (by decide) (by decide) (k' := 2) rfl (n' := 48) rfl (by decide) (by decide) fun vm10 T10 h10 v10 X10 r10 Q10 => ?_
  obtain ⟨t_10, kt_10, rfl, q10_0, q10_1, q10_2, q10_3, q10_4, q10_5⟩ := Q10
  have g11 := Nat.le_trans X1.n0le q10_5
  show Go _ _ _ _ _ _ _ _ _ _ [(.ref a1)]
  exact X10.areturn i46_8 rfl rfl rfl (by decide) (by decide) (fun sf hsf => ⟨a1, t_10, kt_10, rfl, (ext_keep E1 q10_0 (allS (Nat.le_of_eq z1) all0)), (Nat.le_of_eq z1), q10_1, q10_2, q10_3, q10_4, (Nat.le_trans E1.1 q10_5)⟩)
theorem own_thrW {Z : State} {a0 : Array Value} (hw : ∀ d ∈ tables_1, d.before a0 Z = true) : ∀ d ∈ thrWords "java/lang/IllegalArgumentException", d.before a0 Z = true := fun d hd => hw d ((by decide +kernel : ∀ d ∈ thrWords "java/lang/IllegalArgumentException", d ∈ tables_1) d hd)
theorem c_th (hX : own_Ctx l Z a0 zc fm us ss) (hO : Old Z n0 h) (x : Addr) (m : Addr) (E_x : Exa Z h x "java/lang/IllegalArgumentException") (U_x : Unt h x) (g_x : n0 ≤ x) (F_x0 : Fld Z h x "java/lang/Throwable" "backtrace" "Ljava/lang/Object;" .null) (F_x1 : Fld Z h x "java/lang/Throwable" "detailMessage" "Ljava/lang/String;" .null) (F_x2 : Fld Z h x "java/lang/Throwable" "cause" "Ljava/lang/Throwable;" .null) (F_x3 : Fld Z h x "java/lang/Throwable" "stackTrace" "[Ljava/lang/StackTraceElement;" .null) (F_x4 : Fld Z h x "java/lang/Throwable" "suppressedExceptions" "Ljava/util/List;" .null) :
    ConK [] false l Z own_EL n0 [x] (⟨"java/lang/Throwable", "<init>", "(Ljava/lang/String;)V"⟩ : MethodName) B47 2 none ({ frames := 3, cells := 1, slots := 2752, locals := 42 } : Room) #[(.ref x), (.ref m)] h (fun v h' sf => v = none ∧ Keep h h' [x] ∧ Exa Z h' x "java/lang/IllegalArgumentException" ∧ Unt h' x ∧ Fld Z h' x "java/lang/Throwable" "detailMessage" "Ljava/lang/String;" (.ref m) ∧ Fld Z h' x "java/lang/Throwable" "cause" "Ljava/lang/Throwable;" (.ref x)) := by
  obtain ⟨hw, hEL, hcs, hcz, hfm, hfr, hst, hKn, hus, hss, had, hhi, hlo⟩ := id hX
  refine Con.introK (Ls := #[.val (.ref x), .val (.ref m)]) pn47 hEL hO (fun m => rfl) fun C vm T hl X hs hT0 hFK => ?_
  have X : On C ({ frames := 3, cells := 1, slots := 2752, locals := 42 } : Room) "java/lang/Throwable" B47 2 none "<init>" false Z a0 own_EL n0 vm T h 0 0 := X
  have sf_x := hs x (List.mem_of_getElem? (i := 0) rfl)
  refine X.aload_n i47_0 rfl rfl ?_
  refine X.initO i47_1 (hw _ wd_179) (hw _ wd_12) (hw _ wd_13) rfl (by decide) (W := 0) rfl (by decide) fun T1 X1 => ?_
  refine X1.aload_n i47_4 rfl rfl ?_
  refine X1.aload_n i47_5 rfl rfl ?_
  refine X1.putfield i47_6 (hw _ wd_180) Via.refl F_x2 E_x (Or.inl (hw _ wd_181)) (hw _ wd_27) (ty := (.object "java/lang/Throwable")) (by decide) rfl rfl g_x sf_x fun T2 h2 X2 W2 => ?_
  refine X2.aload_n i47_9 rfl rfl ?_
  refine X2.getstatic i47_10 (hw _ wd_182) Via.refl (hus.ext X2.ext0) fun T3 X3 => ?_
  have F4 := (F_x3.other W2 (Or.inr (slot_ne (Or.inl (hw _ wd_184)) (Or.inl (hw _ wd_181)) (by decide) (t := (.array (.object "java/lang/StackTraceElement"))) (t' := (.object "java/lang/Throwable")) (by decide) (by decide))))
  have E5 := (E_x.wr W2)
  have Sf7 := ((CHr.wr W2 sf_x X1.chv)).safe (F_x3).lt sf_x
  refine X3.putfield i47_13 (hw _ wd_183) Via.refl F4 E5 (Or.inl (hw _ wd_184)) (hw _ wd_27) (ty := (.array (.object "java/lang/StackTraceElement"))) (by decide) rfl rfl g_x Sf7 fun T6 h6 X6 W6 => ?_
  refine X6.aload_n i47_16 rfl rfl ?_
  refine X6.getstatic i47_17 (hw _ wd_185) Via.refl (hss.ext X6.ext0) fun T8 X8 => ?_
  have F9 := ((F_x4.other W2 (Or.inr (slot_ne (Or.inl (hw _ wd_187)) (Or.inl (hw _ wd_181)) (by decide) (t := (.object "java/util/List")) (t' := (.object "java/lang/Throwable")) (by decide) (by decide)))).other W6 (Or.inr (slot_ne (Or.inl (hw _ wd_187)) (Or.inl (hw _ wd_184)) (by decide) (t := (.object "java/util/List")) (t' := (.array (.object "java/lang/StackTraceElement"))) (by decide) (by decide))))
  have E10 := (E5.wr W6)
  have Sf12 := ((CHr.wr W6 Sf7 X3.chv)).safe (E5).lt Sf7
  refine X8.putfield i47_20 (hw _ wd_186) Via.refl F9 E10 (Or.inl (hw _ wd_187)) (hw _ wd_27) (ty := (.object "java/util/List")) (by decide) rfl rfl g_x Sf12 fun T11 h11 X11 W11 => ?_
  refine X11.aload_n i47_23 rfl rfl ?_
  have E13 := (E10.wr W11)
  have U14 := (((U_x.wr W2).wr W6).wr W11)
  have F15 := ((F4.same W6).other W11 (Or.inr (slot_ne (Or.inl (hw _ wd_184)) (Or.inl (hw _ wd_187)) (by decide) (t := (.array (.object "java/lang/StackTraceElement"))) (t' := (.object "java/util/List")) (by decide) (by decide))))
  have F16 := (((F_x0.other W2 (Or.inr (slot_ne (Or.inl (hw _ wd_212)) (Or.inl (hw _ wd_181)) (by decide) (t := (.object "java/lang/Object")) (t' := (.object "java/lang/Throwable")) (by decide) (by decide)))).other W6 (Or.inr (slot_ne (Or.inl (hw _ wd_212)) (Or.inl (hw _ wd_184)) (by decide) (t := (.object "java/lang/Object")) (t' := (.array (.object "java/lang/StackTraceElement"))) (by decide) (by decide)))).other W11 (Or.inr (slot_ne (Or.inl (hw _ wd_212)) (Or.inl (hw _ wd_187)) (by decide) (t := (.object "java/lang/Object")) (t' := (.object "java/util/List")) (by decide) (by decide))))
  have Sf18 := ((CHr.wr W11 Sf12 X8.chv)).safe (E10).lt Sf12
  refine X11.fill (by rw [hl]; exact hst) (rc := "java/lang/IllegalArgumentException") i47_24 (own_thrW hw) (hw _ wd_27) hT0 hKn hFK E13 U14 F15 F16 hus g_x Sf18 rfl (W := 0) rfl (by decide) (by decide) (k' := 1) rfl (n' := 2752) rfl (by decide) (by decide) fun T17 h17a h17b h17c h17 b17 d17 X17 E17 W17a W17b W17c => ?_
  refine X17.pop i47_27 rfl ?_
  refine X17.aload_n i47_28 rfl rfl ?_
  refine X17.aload_n i47_29 rfl rfl ?_
  have F19 := (((((((F_x1.other W2 (Or.inr (slot_ne (Or.inl (hw _ wd_211)) (Or.inl (hw _ wd_181)) (by decide) (t := (.object "java/lang/String")) (t' := (.object "java/lang/Throwable")) (by decide) (by decide)))).other W6 (Or.inr (slot_ne (Or.inl (hw _ wd_211)) (Or.inl (hw _ wd_184)) (by decide) (t := (.object "java/lang/String")) (t' := (.array (.object "java/lang/StackTraceElement"))) (by decide) (by decide)))).other W11 (Or.inr (slot_ne (Or.inl (hw _ wd_211)) (Or.inl (hw _ wd_187)) (by decide) (t := (.object "java/lang/String")) (t' := (.object "java/util/List")) (by decide) (by decide)))).ext E17).other W17a (Or.inr (slot_ne (Or.inl (hw _ wd_211)) (Or.inl (hw _ wd_212)) (by decide) (t := (.object "java/lang/String")) (t' := (.object "java/lang/Object")) (by decide) (by decide)))).other W17b (Or.inr (slot_ne (Or.inl (hw _ wd_211)) (Or.inl (hw _ wd_213)) (by decide) (t := (.object "java/lang/String")) (t' := .int) (by decide) (by decide)))).other W17c (Or.inr (slot_ne (Or.inl (hw _ wd_211)) (Or.inl (hw _ wd_184)) (by decide) (t := (.object "java/lang/String")) (t' := (.array (.object "java/lang/StackTraceElement"))) (by decide) (by decide))))
  have E20 := ((((E13.ext E17).wr W17a).wr W17b).wr W17c)
  refine X17.putfield i47_30 (hw _ wd_215) Via.refl F19 E20 (Or.inl (hw _ wd_211)) (hw _ wd_27) (ty := (.object "java/lang/String")) (by decide) rfl rfl g_x (Safe.exa X17.zw.alike E20 (by decide) (by decide)) fun T21 h21 X21 W21 => ?_
  have E22 := (E20.wr W21)
  have U23 := (((((U14.ext E17).wr W17a).wr W17b).wr W17c).wr W21)
  have F24 := ((((((((F_x2.same W2).other W6 (Or.inr (slot_ne (Or.inl (hw _ wd_181)) (Or.inl (hw _ wd_184)) (by decide) (t := (.object "java/lang/Throwable")) (t' := (.array (.object "java/lang/StackTraceElement"))) (by decide) (by decide)))).other W11 (Or.inr (slot_ne (Or.inl (hw _ wd_181)) (Or.inl (hw _ wd_187)) (by decide) (t := (.object "java/lang/Throwable")) (t' := (.object "java/util/List")) (by decide) (by decide)))).ext E17).other W17a (Or.inr (slot_ne (Or.inl (hw _ wd_181)) (Or.inl (hw _ wd_212)) (by decide) (t := (.object "java/lang/Throwable")) (t' := (.object "java/lang/Object")) (by decide) (by decide)))).other W17b (Or.inr (slot_ne (Or.inl (hw _ wd_181)) (Or.inl (hw _ wd_213)) (by decide) (t := (.object "java/lang/Throwable")) (t' := .int) (by decide) (by decide)))).other W17c (Or.inr (slot_ne (Or.inl (hw _ wd_181)) (Or.inl (hw _ wd_184)) (by decide) (t := (.object "java/lang/Throwable")) (t' := (.array (.object "java/lang/StackTraceElement"))) (by decide) (by decide)))).other W21 (Or.inr (slot_ne (Or.inl (hw _ wd_181)) (Or.inl (hw _ wd_211)) (by decide) (t := (.object "java/lang/Throwable")) (t' := (.object "java/lang/String")) (by decide) (by decide))))
  exact X21.ret i47_33 rfl (by decide) (by decide) (fun sf hsf => ⟨rfl, (((((((((Keep.refl _ [x]).wr W2 (Or.inl (List.mem_of_getElem? (i := 0) rfl))).wr W6 (Or.inl (List.mem_of_getElem? (i := 0) rfl))).wr W11 (Or.inl (List.mem_of_getElem? (i := 0) rfl))).ext E17).wr W17a (Or.inl (List.mem_of_getElem? (i := 0) rfl))).wr W17b (Or.inl (List.mem_of_getElem? (i := 0) rfl))).wr W17c (Or.inl (List.mem_of_getElem? (i := 0) rfl))).wr W21 (Or.inl (List.mem_of_getElem? (i := 0) rfl))), E22, U23, (F19.same W21), F24⟩)
theorem c_ex (hX : own_Ctx l Z a0 zc fm us ss) (hO : Old Z n0 h) (x : Addr) (m : Addr) (E_x : Exa Z h x "java/lang/IllegalArgumentException") (U_x : Unt h x) (g_x : n0 ≤ x) (F_x0 : Fld Z h x "java/lang/Throwable" "backtrace" "Ljava/lang/Object;" .null) (F_x1 : Fld Z h x "java/lang/Throwable" "detailMessage" "Ljava/lang/String;" .null) (F_x2 : Fld Z h x "java/lang/Throwable" "cause" "Ljava/lang/Throwable;" .null) (F_x3 : Fld Z h x "java/lang/Throwable" "stackTrace" "[Ljava/lang/StackTraceElement;" .null) (F_x4 : Fld Z h x "java/lang/Throwable" "suppressedExceptions" "Ljava/util/List;" .null) :
    ConK [] false l Z own_EL n0 [x] (⟨"java/lang/Exception", "<init>", "(Ljava/lang/String;)V"⟩ : MethodName) B48 2 none ({ frames := 4, cells := 1, slots := 2752, locals := 55 } : Room) #[(.ref x), (.ref m)] h (fun v h' sf => v = none ∧ Keep h h' [x] ∧ Exa Z h' x "java/lang/IllegalArgumentException" ∧ Unt h' x ∧ Fld Z h' x "java/lang/Throwable" "detailMessage" "Ljava/lang/String;" (.ref m) ∧ Fld Z h' x "java/lang/Throwable" "cause" "Ljava/lang/Throwable;" (.ref x)) := by
  obtain ⟨hw, hEL, hcs, hcz, hfm, hfr, hst, hKn, hus, hss, had, hhi, hlo⟩ := id hX
  refine Con.introK (Ls := #[.val (.ref x), .val (.ref m)]) pn48 hEL hO (fun m => rfl) fun C vm T hl X hs hT0 hFK => ?_
  have X : On C ({ frames := 4, cells := 1, slots := 2752, locals := 55 } : Room) "java/lang/Exception" B48 2 none "<init>" false Z a0 own_EL n0 vm T h 0 0 := X
  have sf_x := hs x (List.mem_of_getElem? (i := 0) rfl)
  refine X.aload_n i48_0 rfl rfl ?_
  refine X.aload_n i48_1 rfl rfl ?_
  refine X.callIK hl hKn hFK (argsL := [(.ref m)]) (a := x) i48_2 (c_th hX X.old x m E_x U_x g_x F_x0 F_x1 F_x2 F_x3 F_x4) (hw _ wd_173) (hw _ wd_174) (hw _ wd_177) (hw _ wd_178) rfl (by decide) (sf_cons ⟨sf_x, (E_x).lt⟩ sf_nil) pd1 rfl rfl rfl (W := 0) rfl (by decide) (by decide) (k' := 1) rfl (n' := 2752) rfl (by decide) (by decide) fun vm1 T1 h1 v1 X1 r1 Q1 => ?_
  obtain ⟨rfl, q1_0, q1_1, q1_2, q1_3, q1_4⟩ := Q1
  show Go _ _ _ _ _ _ _ _ _ _ []
  exact X1.ret i48_5 rfl (by decide) (by decide) (fun sf hsf => ⟨rfl, ((Keep.refl _ [x]).trans q1_0 (allS (Or.inl (List.mem_of_getElem? (i := 0) rfl)) all0)), q1_1, q1_2, q1_3, q1_4⟩)
theorem c_rt (hX : own_Ctx l Z a0 zc fm us ss) (hO : Old Z n0 h) (x : Addr) (m : Addr) (E_x : Exa Z h x "java/lang/IllegalArgumentException") (U_x : Unt h x) (g_x : n0 ≤ x) (F_x0 : Fld Z h x "java/lang/Throwable" "backtrace" "Ljava/lang/Object;" .null) (F_x1 : Fld Z h x "java/lang/Throwable" "detailMessage" "Ljava/lang/String;" .null) (F_x2 : Fld Z h x "java/lang/Throwable" "cause" "Ljava/lang/Throwable;" .null) (F_x3 : Fld Z h x "java/lang/Throwable" "stackTrace" "[Ljava/lang/StackTraceElement;" .null) (F_x4 : Fld Z h x "java/lang/Throwable" "suppressedExceptions" "Ljava/util/List;" .null) :
    ConK [] false l Z own_EL n0 [x] (⟨"java/lang/RuntimeException", "<init>", "(Ljava/lang/String;)V"⟩ : MethodName) B49 2 none ({ frames := 5, cells := 1, slots := 2752, locals := 68 } : Room) #[(.ref x), (.ref m)] h (fun v h' sf => v = none ∧ Keep h h' [x] ∧ Exa Z h' x "java/lang/IllegalArgumentException" ∧ Unt h' x ∧ Fld Z h' x "java/lang/Throwable" "detailMessage" "Ljava/lang/String;" (.ref m) ∧ Fld Z h' x "java/lang/Throwable" "cause" "Ljava/lang/Throwable;" (.ref x)) := by
  obtain ⟨hw, hEL, hcs, hcz, hfm, hfr, hst, hKn, hus, hss, had, hhi, hlo⟩ := id hX
  refine Con.introK (Ls := #[.val (.ref x), .val (.ref m)]) pn49 hEL hO (fun m => rfl) fun C vm T hl X hs hT0 hFK => ?_
  have X : On C ({ frames := 5, cells := 1, slots := 2752, locals := 68 } : Room) "java/lang/RuntimeException" B49 2 none "<init>" false Z a0 own_EL n0 vm T h 0 0 := X
  have sf_x := hs x (List.mem_of_getElem? (i := 0) rfl)
  refine X.aload_n i49_0 rfl rfl ?_
  refine X.aload_n i49_1 rfl rfl ?_
  refine X.callIK hl hKn hFK (argsL := [(.ref m)]) (a := x) i49_2 (c_ex hX X.old x m E_x U_x g_x F_x0 F_x1 F_x2 F_x3 F_x4) (hw _ wd_167) (hw _ wd_168) (hw _ wd_171) (hw _ wd_172) rfl (by decide) (sf_cons ⟨sf_x, (E_x).lt⟩ sf_nil) pd1 rfl rfl rfl (W := 0) rfl (by decide) (by decide) (k' := 1) rfl (n' := 2752) rfl (by decide) (by decide) fun vm1 T1 h1 v1 X1 r1 Q1 => ?_
  obtain ⟨rfl, q1_0, q1_1, q1_2, q1_3, q1_4⟩ := Q1
  show Go _ _ _ _ _ _ _ _ _ _ []
  exact X1.ret i49_5 rfl (by decide) (by decide) (fun sf hsf => ⟨rfl, ((Keep.refl _ [x]).trans q1_0 (allS (Or.inl (List.mem_of_getElem? (i := 0) rfl)) all0)), q1_1, q1_2, q1_3, q1_4⟩)
theorem c_ia (hX : own_Ctx l Z a0 zc fm us ss) (hO : Old Z n0 h) (x : Addr) (m : Addr) (E_x : Exa Z h x "java/lang/IllegalArgumentException") (U_x : Unt h x) (g_x : n0 ≤ x) (F_x0 : Fld Z h x "java/lang/Throwable" "backtrace" "Ljava/lang/Object;" .null) (F_x1 : Fld Z h x "java/lang/Throwable" "detailMessage" "Ljava/lang/String;" .null) (F_x2 : Fld Z h x "java/lang/Throwable" "cause" "Ljava/lang/Throwable;" .null) (F_x3 : Fld Z h x "java/lang/Throwable" "stackTrace" "[Ljava/lang/StackTraceElement;" .null) (F_x4 : Fld Z h x "java/lang/Throwable" "suppressedExceptions" "Ljava/util/List;" .null) :
    ConK [] false l Z own_EL n0 [x] (⟨"java/lang/IllegalArgumentException", "<init>", "(Ljava/lang/String;)V"⟩ : MethodName) B50 2 none ({ frames := 6, cells := 1, slots := 2752, locals := 81 } : Room) #[(.ref x), (.ref m)] h (fun v h' sf => v = none ∧ Keep h h' [x] ∧ Exa Z h' x "java/lang/IllegalArgumentException" ∧ Unt h' x ∧ Fld Z h' x "java/lang/Throwable" "detailMessage" "Ljava/lang/String;" (.ref m) ∧ Fld Z h' x "java/lang/Throwable" "cause" "Ljava/lang/Throwable;" (.ref x)) := by
  obtain ⟨hw, hEL, hcs, hcz, hfm, hfr, hst, hKn, hus, hss, had, hhi, hlo⟩ := id hX
  refine Con.introK (Ls := #[.val (.ref x), .val (.ref m)]) pn50 hEL hO (fun m => rfl) fun C vm T hl X hs hT0 hFK => ?_
  have X : On C ({ frames := 6, cells := 1, slots := 2752, locals := 81 } : Room) "java/lang/IllegalArgumentException" B50 2 none "<init>" false Z a0 own_EL n0 vm T h 0 0 := X
  have sf_x := hs x (List.mem_of_getElem? (i := 0) rfl)
  refine X.aload_n i50_0 rfl rfl ?_
  refine X.aload_n i50_1 rfl rfl ?_
  refine X.callIK hl hKn hFK (argsL := [(.ref m)]) (a := x) i50_2 (c_rt hX X.old x m E_x U_x g_x F_x0 F_x1 F_x2 F_x3 F_x4) (hw _ wd_161) (hw _ wd_162) (hw _ wd_165) (hw _ wd_166) rfl (by decide) (sf_cons ⟨sf_x, (E_x).lt⟩ sf_nil) pd1 rfl rfl rfl (W := 0) rfl (by decide) (by decide) (k' := 1) rfl (n' := 2752) rfl (by decide) (by decide) fun vm1 T1 h1 v1 X1 r1 Q1 => ?_
  obtain ⟨rfl, q1_0, q1_1, q1_2, q1_3, q1_4⟩ := Q1
  show Go _ _ _ _ _ _ _ _ _ _ []
  exact X1.ret i50_5 rfl (by decide) (by decide) (fun sf hsf => ⟨rfl, ((Keep.refl _ [x]).trans q1_0 (allS (Or.inl (List.mem_of_getElem? (i := 0) rfl)) all0)), q1_1, q1_2, q1_3, q1_4⟩)
theorem c_npL (hX : own_Ctx l Z a0 zc fm us ss) (hO : Old Z n0 h) (s : Addr) (t : Addr) (kb : ClassId) (cs : List Int32) (S_s : Str Z h s t kb cs) (gq3 : cs.length ≤ 3) :
    ConK [] false l Z own_EL n0 [] (⟨"com/example/yusen/yusen/figures/Checks", "notPositive", "(Ljava/lang/String;)Ljava/lang/IllegalArgumentException;"⟩ : MethodName) B51 1 (some (.object "java/lang/IllegalArgumentException")) ({ frames := 7, cells := 9, slots := 2918, locals := 95 } : Room) #[(.ref s)] h (fun v h' sf => ∃ (x : Addr) (m : Addr) (tm : Addr) (km : ClassId), v = some (.ref x) ∧ Ext h h' ∧ h.size ≤ x ∧ Exa Z h' x "java/lang/IllegalArgumentException" ∧ Unt h' x ∧ Fld Z h' x "java/lang/Throwable" "detailMessage" "Ljava/lang/String;" (.ref m) ∧ Fld Z h' x "java/lang/Throwable" "cause" "Ljava/lang/Throwable;" (.ref x) ∧ Str Z h' m tm km (cs ++ [(32 : Int32), (109 : Int32), (117 : Int32), (115 : Int32), (116 : Int32), (32 : Int32), (98 : Int32), (101 : Int32), (32 : Int32), (97 : Int32), (98 : Int32), (111 : Int32), (118 : Int32), (101 : Int32), (32 : Int32), (122 : Int32), (101 : Int32), (114 : Int32), (111 : Int32)])) := by
  obtain ⟨hw, hEL, hcs, hcz, hfm, hfr, hst, hKn, hus, hss, had, hhi, hlo⟩ := id hX
  refine Con.introK (Ls := #[.val (.ref s)]) pn51 hEL hO (fun m => rfl) fun C vm T hl X hs hT0 hFK => ?_
  have X : On C ({ frames := 7, cells := 9, slots := 2918, locals := 95 } : Room) "com/example/yusen/yusen/figures/Checks" B51 1 (some (.object "java/lang/IllegalArgumentException")) "notPositive" false Z a0 own_EL n0 vm T h 0 0 := X
  refine X.new i51_0 (hw _ wd_26) (hw _ wd_27) (hw _ wd_28) (k' := 1) rfl (n' := 6) rfl (by decide) (by decide) fun T1 h1 a1 X1 E1 z1 g1 A1 D1 U1 Sf1 => ?_
  refine X1.dup i51_3 rfl ?_
  refine X1.new i51_4 (hw _ wd_29) (hw _ wd_30) (hw _ wd_31) (k' := 2) rfl (n' := 10) rfl (by decide) (by decide) fun T2 h2 a2 X2 E2 z2 g2 A2 D2 U2 Sf2 => ?_
  refine X2.dup i51_7 rfl ?_
  have F3 : Fld Z h2 a2 "java/lang/AbstractStringBuilder" "value" "[B" .null := D2 (Or.inl (hw _ wd_44)) (ty := (.array .byte)) (by decide)
  have F4 : Fld Z h2 a2 "java/lang/AbstractStringBuilder" "coder" "B" (.int (0 : Int32)) := D2 (Or.inl (hw _ wd_46)) (ty := .byte) (by decide)
  have F5 : Fld Z h2 a2 "java/lang/AbstractStringBuilder" "count" "I" (.int (0 : Int32)) := D2 (Or.inl (hw _ wd_69)) (ty := .int) (by decide)
  have F6 : Fld Z h2 a2 "java/lang/AbstractStringBuilder" "maybeLatin1" "Z" (.int (0 : Int32)) := D2 (Or.inl (hw _ wd_301)) (ty := .boolean) (by decide)
  refine X2.callI hl (argsL := []) (a := a2) i51_8 (c_sbi hX X2.old a2 A2 g2 F3 F4 F5 F6) (hw _ wd_32) (hw _ wd_33) (hw _ wd_31) (hw _ wd_34) rfl (by decide) sf_nil pd25 rfl rfl rfl (W := 3) rfl (by decide) (by decide) (k' := 3) rfl (n' := 26) rfl (by decide) (by decide) fun vm7 T7 h7 v7 X7 r7 Q7 => ?_
  obtain ⟨ar_7, ka_7, rfl, q7_0, q7_1, q7_2, q7_3, q7_4, q7_5, q7_6, q7_7⟩ := Q7
  have g8 := Nat.le_trans X2.n0le q7_2
  show Go _ _ _ _ _ _ _ _ _ _ [(.ref a2), (.ref a1), (.ref a1)]
  refine X7.aload_n i51_11 rfl rfl ?_
  have S9 := (((S_s.ext E1).ext E2).keep q7_0 (ninS (Nat.ne_of_lt (Nat.lt_of_lt_of_le (Nat.lt_of_lt_of_le (S_s).lt E1.1) (Nat.le_of_eq z2))) nin0) (ninS (Nat.ne_of_lt (Nat.lt_of_lt_of_le (Nat.lt_of_lt_of_le (S_s).ltT E1.1) (Nat.le_of_eq z2))) nin0))
  have E10 := (A2.keep q7_0)
  refine X7.callV hl (argsL := [(.ref s)]) (a := a2) i51_12 (c_app hX X7.old a2 s t kb cs ar_7 ka_7 ([] : List Int32) S9 E10 g2 g8 q7_3 q7_4 q7_5 q7_6 (by have := gq3; simp only [List.length_append, List.length_cons, List.length_nil, List.nil_append]; omega) (by have := gq3; simp only [List.length_append, List.length_cons, List.length_nil, List.nil_append]; omega) (Nat.ne_of_lt (Nat.lt_of_lt_of_le (F6).lt q7_2))) E10 (hw _ wd_47) (hw _ wd_48) (hw _ wd_50) (nfSel X7.zw (hw _ wd_50)) (hw _ wd_49) (hw _ wd_31) (hw _ wd_51) (by decide) (sf_cons ⟨q7_7, (q7_6).lt⟩ sf_nil) pd32 rfl rfl rfl (W := 2) rfl (by decide) (by decide) (k' := 3) rfl (n' := 26) rfl (by decide) (by decide) fun vm11 T11 h11 v11 X11 r11 Q11 => ?_
  obtain ⟨rfl, q11_0, q11_1, q11_2, q11_3, q11_4, q11_5⟩ := Q11
  show Go _ _ _ _ _ _ _ _ _ _ [(.ref a2), (.ref a1), (.ref a1)]
  have e0 : (([] : List Int32) ++ cs) = cs := List.nil_append cs
  have V12 : Arv Z h11 ar_7 ka_7 .byte (16 : Int32) (cs.map own_f) (.int (0 : Int32)) := q11_4
  have F12 : Fld Z h11 a2 "java/lang/AbstractStringBuilder" "count" "I" (.int (Int32.ofNat cs.length)) := q11_3
  refine X11.ldcS rfl (cs := [(32 : Int32), (109 : Int32), (117 : Int32), (115 : Int32), (116 : Int32), (32 : Int32), (98 : Int32), (101 : Int32), (32 : Int32), (97 : Int32), (98 : Int32), (111 : Int32), (118 : Int32), (101 : Int32), (32 : Int32), (122 : Int32), (101 : Int32), (114 : Int32), (111 : Int32)]) i51_15 (hw _ wd_95) (own_wS hw) (List.mem_of_getElem? (i := 0) rfl) lt1_a lt1_b lt1_c (Nat.le_of_ble_eq_true rfl) (nn := 76) (Nat.le_of_eq lt1_d) (by decide) (k' := 5) rfl (n' := 106) rfl (by decide) (by decide) fun vm13 T13 h13 a13 t13 b13 X13 E13 r13 S13 ne13 => ?_
  have Sf14 := (((r7).trans r11).trans r13).safe (F6).lt Sf2
  have E15 := ((E10.keep q11_0).ext E13)
  have F16 := (q11_1.ext E13)
  have F17 := (q11_2.ext E13)
  have F18 := (F12.ext E13)
  have V19 := (V12.ext E13)
  refine X13.callV hl (argsL := [(.ref a13)]) (a := a2) i51_17 (c_apL hX X13.old a2 a13 t13 b13 [(32 : Int32), (109 : Int32), (117 : Int32), (115 : Int32), (116 : Int32), (32 : Int32), (98 : Int32), (101 : Int32), (32 : Int32), (97 : Int32), (98 : Int32), (111 : Int32), (118 : Int32), (101 : Int32), (32 : Int32), (122 : Int32), (101 : Int32), (114 : Int32), (111 : Int32)] ar_7 ka_7 cs S13 g2 E15 F16 F17 F18 V19 (by simp only [List.length_append, List.length_cons, List.length_nil]; omega) (by have := gq3; simp only [List.length_append, List.length_cons, List.length_nil]; omega) gq3 (Nat.ne_of_lt (Nat.lt_of_lt_of_le (F6).lt q7_2)) (Ne.symm (ne13 _ Sf14).1) (Ne.symm (ne13 _ Sf14).2)) E15 (hw _ wd_47) (hw _ wd_48) (hw _ wd_50) (nfSel X13.zw (hw _ wd_50)) (hw _ wd_49) (hw _ wd_31) (hw _ wd_51) (by decide) sf_nil pd32 rfl rfl rfl (W := 2) rfl (by decide) (by decide) (k' := 6) rfl (n' := 140) rfl (by decide) (by decide) fun vm20 T20 h20 v20 X20 r20 Q20 => ?_
  obtain ⟨r_20, kr_20, rfl, q20_0, q20_1, q20_2, q20_3, q20_4, q20_5, q20_6⟩ := Q20
  have g21 := Nat.le_trans X13.n0le q20_1
  show Go _ _ _ _ _ _ _ _ _ _ [(.ref a2), (.ref a1), (.ref a1)]
  have E22 := (E15.keep q20_0)
  refine X20.callV hl (argsL := []) (a := a2) i51_20 (c_tsL hX X20.old a2 r_20 kr_20 (cs ++ [(32 : Int32), (109 : Int32), (117 : Int32), (115 : Int32), (116 : Int32), (32 : Int32), (98 : Int32), (101 : Int32), (32 : Int32), (97 : Int32), (98 : Int32), (111 : Int32), (118 : Int32), (101 : Int32), (32 : Int32), (122 : Int32), (101 : Int32), (114 : Int32), (111 : Int32)]) E22 q20_2 q20_3 q20_4 q20_5 (by have := gq3; simp only [List.length_append, List.length_cons, List.length_nil]; omega) (own_lapp S_s.2.2.2.2 lt1_c)) E22 (hw _ wd_119) (hw _ wd_120) (hw _ wd_122) (nfSel X20.zw (hw _ wd_122)) (hw _ wd_121) (hw _ wd_31) (hw _ wd_123) (by decide) sf_nil pd33 rfl rfl rfl (W := 2) rfl (by decide) (by decide) (k' := 8) rfl (n' := 166) rfl (by decide) (by decide) fun vm23 T23 h23 v23 X23 r23 Q23 => ?_
  obtain ⟨x_23, t_23, kt_23, rfl, q23_0, q23_1, q23_2, q23_3⟩ := Q23
  have g24 := Nat.le_trans X20.n0le q23_1
  have g25 := Nat.le_trans X20.n0le q23_3
  show Go _ _ _ _ _ _ _ _ _ _ [(.ref x_23), (.ref a1), (.ref a1)]
  have E26 := ((((((A1.ext E2).keep q7_0).keep q11_0).ext E13).keep q20_0).ext q23_0)
  have U27 := ((Unt.keep q20_0 (ninS (Nat.ne_of_lt (Nat.lt_of_lt_of_le (A1).lt (Nat.le_of_eq z2))) nin0) ((Unt.keep q11_0 (ninS (Nat.ne_of_lt (Nat.lt_of_lt_of_le (A1).lt (Nat.le_of_eq z2))) (ninS (Nat.ne_of_lt (Nat.lt_of_lt_of_le (Nat.lt_of_lt_of_le (A1).lt E2.1) q7_2)) nin0)) (Unt.keep q7_0 (ninS (Nat.ne_of_lt (Nat.lt_of_lt_of_le (A1).lt (Nat.le_of_eq z2))) nin0) (U1.ext E2))).ext E13)).ext q23_0)
  have F28 : Fld Z h1 a1 "java/lang/Throwable" "backtrace" "Ljava/lang/Object;" .null := D1 (Or.inl (hw _ wd_212)) (ty := (.object "java/lang/Object")) (by decide)
  have F29 := ((((((F28.ext E2).keep q7_0 (ninS (Nat.ne_of_lt (Nat.lt_of_lt_of_le (A1).lt (Nat.le_of_eq z2))) nin0)).keep q11_0 (ninS (Nat.ne_of_lt (Nat.lt_of_lt_of_le (A1).lt (Nat.le_of_eq z2))) (ninS (Nat.ne_of_lt (Nat.lt_of_lt_of_le (Nat.lt_of_lt_of_le (A1).lt E2.1) q7_2)) nin0))).ext E13).keep q20_0 (ninS (Nat.ne_of_lt (Nat.lt_of_lt_of_le (A1).lt (Nat.le_of_eq z2))) nin0)).ext q23_0)
  have F30 : Fld Z h1 a1 "java/lang/Throwable" "detailMessage" "Ljava/lang/String;" .null := D1 (Or.inl (hw _ wd_211)) (ty := (.object "java/lang/String")) (by decide)
  have F31 := ((((((F30.ext E2).keep q7_0 (ninS (Nat.ne_of_lt (Nat.lt_of_lt_of_le (A1).lt (Nat.le_of_eq z2))) nin0)).keep q11_0 (ninS (Nat.ne_of_lt (Nat.lt_of_lt_of_le (A1).lt (Nat.le_of_eq z2))) (ninS (Nat.ne_of_lt (Nat.lt_of_lt_of_le (Nat.lt_of_lt_of_le (A1).lt E2.1) q7_2)) nin0))).ext E13).keep q20_0 (ninS (Nat.ne_of_lt (Nat.lt_of_lt_of_le (A1).lt (Nat.le_of_eq z2))) nin0)).ext q23_0)
  have F32 : Fld Z h1 a1 "java/lang/Throwable" "cause" "Ljava/lang/Throwable;" .null := D1 (Or.inl (hw _ wd_181)) (ty := (.object "java/lang/Throwable")) (by decide)
  have F33 := ((((((F32.ext E2).keep q7_0 (ninS (Nat.ne_of_lt (Nat.lt_of_lt_of_le (A1).lt (Nat.le_of_eq z2))) nin0)).keep q11_0 (ninS (Nat.ne_of_lt (Nat.lt_of_lt_of_le (A1).lt (Nat.le_of_eq z2))) (ninS (Nat.ne_of_lt (Nat.lt_of_lt_of_le (Nat.lt_of_lt_of_le (A1).lt E2.1) q7_2)) nin0))).ext E13).keep q20_0 (ninS (Nat.ne_of_lt (Nat.lt_of_lt_of_le (A1).lt (Nat.le_of_eq z2))) nin0)).ext q23_0)
  have F34 : Fld Z h1 a1 "java/lang/Throwable" "stackTrace" "[Ljava/lang/StackTraceElement;" .null := D1 (Or.inl (hw _ wd_184)) (ty := (.array (.object "java/lang/StackTraceElement"))) (by decide)
  have F35 := ((((((F34.ext E2).keep q7_0 (ninS (Nat.ne_of_lt (Nat.lt_of_lt_of_le (A1).lt (Nat.le_of_eq z2))) nin0)).keep q11_0 (ninS (Nat.ne_of_lt (Nat.lt_of_lt_of_le (A1).lt (Nat.le_of_eq z2))) (ninS (Nat.ne_of_lt (Nat.lt_of_lt_of_le (Nat.lt_of_lt_of_le (A1).lt E2.1) q7_2)) nin0))).ext E13).keep q20_0 (ninS (Nat.ne_of_lt (Nat.lt_of_lt_of_le (A1).lt (Nat.le_of_eq z2))) nin0)).ext q23_0)
  have F36 : Fld Z h1 a1 "java/lang/Throwable" "suppressedExceptions" "Ljava/util/List;" .null := D1 (Or.inl (hw _ wd_187)) (ty := (.object "java/util/List")) (by decide)
  have F37 := ((((((F36.ext E2).keep q7_0 (ninS (Nat.ne_of_lt (Nat.lt_of_lt_of_le (A1).lt (Nat.le_of_eq z2))) nin0)).keep q11_0 (ninS (Nat.ne_of_lt (Nat.lt_of_lt_of_le (A1).lt (Nat.le_of_eq z2))) (ninS (Nat.ne_of_lt (Nat.lt_of_lt_of_le (Nat.lt_of_lt_of_le (A1).lt E2.1) q7_2)) nin0))).ext E13).keep q20_0 (ninS (Nat.ne_of_lt (Nat.lt_of_lt_of_le (A1).lt (Nat.le_of_eq z2))) nin0)).ext q23_0)
  have Sf39 := (((((((CHr.ext E2 X1.chv)).trans r7).trans r11).trans r13).trans r20).trans r23).safe (A1).lt Sf1
  refine X23.callIK hl hKn hFK (argsL := [(.ref x_23)]) (a := a1) i51_23 (c_ia hX X23.old a1 x_23 E26 U27 g1 F29 F31 F33 F35 F37) (hw _ wd_158) (hw _ wd_159) (hw _ wd_28) (hw _ wd_160) rfl (by decide) (sf_cons ⟨Sf39, (E26).lt⟩ sf_nil) pd1 rfl rfl rfl (W := 1) rfl (by decide) (by decide) (k' := 9) rfl (n' := 2918) rfl (by decide) (by decide) fun vm38 T38 h38 v38 X38 r38 Q38 => ?_
  obtain ⟨rfl, q38_0, q38_1, q38_2, q38_3, q38_4⟩ := Q38
  show Go _ _ _ _ _ _ _ _ _ _ [(.ref a1)]
  have S40 := (q23_2.keep q38_0 (ninS (Nat.ne_of_gt (Nat.lt_of_lt_of_le (Nat.lt_of_lt_of_le (Nat.lt_of_lt_of_le (Nat.lt_of_lt_of_le (Nat.lt_of_lt_of_le (Nat.lt_of_lt_of_le (A1).lt E2.1) q7_0.1) q11_0.1) E13.1) q20_0.1) q23_1)) nin0) (ninS (Nat.ne_of_gt (Nat.lt_of_lt_of_le (Nat.lt_of_lt_of_le (Nat.lt_of_lt_of_le (Nat.lt_of_lt_of_le (Nat.lt_of_lt_of_le (Nat.lt_of_lt_of_le (A1).lt E2.1) q7_0.1) q11_0.1) E13.1) q20_0.1) q23_3)) nin0))
  exact X38.areturn i51_26 rfl rfl rfl (by decide) (by decide) (fun sf hsf => ⟨a1, x_23, t_23, kt_23, rfl, (ext_keep (ext_trans (ext_keep (ext_trans (ext_keep (ext_keep (ext_trans E1 E2) q7_0 (allS (Nat.le_trans E1.1 (Nat.le_of_eq z2)) all0)) q11_0 (allS (Nat.le_trans E1.1 (Nat.le_of_eq z2)) (allS (Nat.le_trans E1.1 (Nat.le_trans E2.1 q7_2)) all0))) E13) q20_0 (allS (Nat.le_trans E1.1 (Nat.le_of_eq z2)) all0)) q23_0) q38_0 (allS (Nat.le_of_eq z1) all0)), (Nat.le_of_eq z1), q38_1, q38_2, q38_3, q38_4, S40⟩)
theorem c_npW (hX : own_Ctx l Z a0 zc fm us ss) (hO : Old Z n0 h) (s : Addr) (t : Addr) (kb : ClassId) (cs : List Int32) (E_s : Exa Z h s "java/lang/String") (F_sv : Fld Z h s "java/lang/String" "value" "[B" (.ref t)) (F_sc : Fld Z h s "java/lang/String" "coder" "B" (.int (1 : Int32))) (V_t : Arv Z h t kb .byte (Int32.ofNat (2 * cs.length)) (own_wb cs) (.int (0 : Int32))) (gq3 : cs.length ≤ 3) :
    ConK [] false l Z own_EL n0 [] (⟨"com/example/yusen/yusen/figures/Checks", "notPositive", "(Ljava/lang/String;)Ljava/lang/IllegalArgumentException;"⟩ : MethodName) B51 1 (some (.object "java/lang/IllegalArgumentException")) ({ frames := 10, cells := 10, slots := 3018, locals := 145 } : Room) #[(.ref s)] h (fun v h' sf => ∃ (x : Addr) (m : Addr) (tm : Addr) (km : ClassId), v = some (.ref x) ∧ Ext h h' ∧ h.size ≤ x ∧ Exa Z h' x "java/lang/IllegalArgumentException" ∧ Unt h' x ∧ Fld Z h' x "java/lang/Throwable" "detailMessage" "Ljava/lang/String;" (.ref m) ∧ Fld Z h' x "java/lang/Throwable" "cause" "Ljava/lang/Throwable;" (.ref x) ∧ Exa Z h' m "java/lang/String" ∧ Fld Z h' m "java/lang/String" "value" "[B" (.ref tm) ∧ Fld Z h' m "java/lang/String" "coder" "B" (.int (1 : Int32)) ∧ Arv Z h' tm km .byte (Int32.ofNat (2 * (cs ++ [(32 : Int32), (109 : Int32), (117 : Int32), (115 : Int32), (116 : Int32), (32 : Int32), (98 : Int32), (101 : Int32), (32 : Int32), (97 : Int32), (98 : Int32), (111 : Int32), (118 : Int32), (101 : Int32), (32 : Int32), (122 : Int32), (101 : Int32), (114 : Int32), (111 : Int32)]).length)) (own_wb (cs ++ [(32 : Int32), (109 : Int32), (117 : Int32), (115 : Int32), (116 : Int32), (32 : Int32), (98 : Int32), (101 : Int32), (32 : Int32), (97 : Int32), (98 : Int32), (111 : Int32), (118 : Int32), (101 : Int32), (32 : Int32), (122 : Int32), (101 : Int32), (114 : Int32), (111 : Int32)])) (.int (0 : Int32))) := by
  obtain ⟨hw, hEL, hcs, hcz, hfm, hfr, hst, hKn, hus, hss, had, hhi, hlo⟩ := id hX
  refine Con.introK (Ls := #[.val (.ref s)]) pn51 hEL hO (fun m => rfl) fun C vm T hl X hs hT0 hFK => ?_
  have X : On C ({ frames := 10, cells := 10, slots := 3018, locals := 145 } : Room) "com/example/yusen/yusen/figures/Checks" B51 1 (some (.object "java/lang/IllegalArgumentException")) "notPositive" false Z a0 own_EL n0 vm T h 0 0 := X
  refine X.new i51_0 (hw _ wd_26) (hw _ wd_27) (hw _ wd_28) (k' := 1) rfl (n' := 6) rfl (by decide) (by decide) fun T1 h1 a1 X1 E1 z1 g1 A1 D1 U1 Sf1 => ?_
  refine X1.dup i51_3 rfl ?_
  refine X1.new i51_4 (hw _ wd_29) (hw _ wd_30) (hw _ wd_31) (k' := 2) rfl (n' := 10) rfl (by decide) (by decide) fun T2 h2 a2 X2 E2 z2 g2 A2 D2 U2 Sf2 => ?_
  refine X2.dup i51_7 rfl ?_
  have F3 : Fld Z h2 a2 "java/lang/AbstractStringBuilder" "value" "[B" .null := D2 (Or.inl (hw _ wd_44)) (ty := (.array .byte)) (by decide)
  have F4 : Fld Z h2 a2 "java/lang/AbstractStringBuilder" "coder" "B" (.int (0 : Int32)) := D2 (Or.inl (hw _ wd_46)) (ty := .byte) (by decide)
  have F5 : Fld Z h2 a2 "java/lang/AbstractStringBuilder" "count" "I" (.int (0 : Int32)) := D2 (Or.inl (hw _ wd_69)) (ty := .int) (by decide)
  have F6 : Fld Z h2 a2 "java/lang/AbstractStringBuilder" "maybeLatin1" "Z" (.int (0 : Int32)) := D2 (Or.inl (hw _ wd_301)) (ty := .boolean) (by decide)
  refine X2.callI hl (argsL := []) (a := a2) i51_8 (c_sbi hX X2.old a2 A2 g2 F3 F4 F5 F6) (hw _ wd_32) (hw _ wd_33) (hw _ wd_31) (hw _ wd_34) rfl (by decide) sf_nil pd25 rfl rfl rfl (W := 3) rfl (by decide) (by decide) (k' := 3) rfl (n' := 26) rfl (by decide) (by decide) fun vm7 T7 h7 v7 X7 r7 Q7 => ?_
  obtain ⟨ar_7, ka_7, rfl, q7_0, q7_1, q7_2, q7_3, q7_4, q7_5, q7_6, q7_7⟩ := Q7
  have g8 := Nat.le_trans X2.n0le q7_2
  show Go _ _ _ _ _ _ _ _ _ _ [(.ref a2), (.ref a1), (.ref a1)]
  refine X7.aload_n i51_11 rfl rfl ?_
  have E9 := (A2.keep q7_0)
  have E10 := (((E_s.ext E1).ext E2).keep q7_0)
  have F11 := (((F_sv.ext E1).ext E2).keep q7_0 (ninS (Nat.ne_of_lt (Nat.lt_of_lt_of_le (Nat.lt_of_lt_of_le (E_s).lt E1.1) (Nat.le_of_eq z2))) nin0))
  have F12 := (((F_sc.ext E1).ext E2).keep q7_0 (ninS (Nat.ne_of_lt (Nat.lt_of_lt_of_le (Nat.lt_of_lt_of_le (E_s).lt E1.1) (Nat.le_of_eq z2))) nin0))
  have V13 := (((V_t.ext E1).ext E2).keep q7_0 (ninS (Nat.ne_of_lt (Nat.lt_of_lt_of_le (Nat.lt_of_lt_of_le (V_t).lt E1.1) (Nat.le_of_eq z2))) nin0))
  refine X7.callV hl (argsL := [(.ref s)]) (a := a2) i51_12 (c_apW hX X7.old a2 ar_7 ka_7 s t kb cs E9 g2 q7_3 q7_4 q7_5 q7_1 q7_6 (Nat.ne_of_lt (Nat.lt_of_lt_of_le (F6).lt q7_2)) E10 F11 F12 V13 (by omega) (Nat.ne_of_lt (Nat.lt_of_lt_of_le (Nat.lt_of_lt_of_le (E_s).lt E1.1) (Nat.le_of_eq z2))) (Nat.ne_of_lt (Nat.lt_of_lt_of_le (Nat.lt_of_lt_of_le (V_t).lt E1.1) (Nat.le_of_eq z2)))) E9 (hw _ wd_47) (hw _ wd_48) (hw _ wd_50) (nfSel X7.zw (hw _ wd_50)) (hw _ wd_49) (hw _ wd_31) (hw _ wd_51) (by decide) sf_nil pd32 rfl rfl rfl (W := 2) rfl (by decide) (by decide) (k' := 4) rfl (n' := 70) rfl (by decide) (by decide) fun vm14 T14 h14 v14 X14 r14 Q14 => ?_
  obtain ⟨r_14, kr_14, rfl, q14_0, q14_1, q14_2, q14_3, q14_4, q14_5, q14_6, q14_7⟩ := Q14
  have g15 := Nat.le_trans X7.n0le q14_1
  show Go _ _ _ _ _ _ _ _ _ _ [(.ref a2), (.ref a1), (.ref a1)]
  refine X14.ldcS rfl (cs := [(32 : Int32), (109 : Int32), (117 : Int32), (115 : Int32), (116 : Int32), (32 : Int32), (98 : Int32), (101 : Int32), (32 : Int32), (97 : Int32), (98 : Int32), (111 : Int32), (118 : Int32), (101 : Int32), (32 : Int32), (122 : Int32), (101 : Int32), (114 : Int32), (111 : Int32)]) i51_15 (hw _ wd_95) (own_wS hw) (List.mem_of_getElem? (i := 0) rfl) lt1_a lt1_b lt1_c (Nat.le_of_ble_eq_true rfl) (nn := 76) (Nat.le_of_eq lt1_d) (by decide) (k' := 6) rfl (n' := 150) rfl (by decide) (by decide) fun vm16 T16 h16 a16 t16 b16 X16 E16 r16 S16 ne16 => ?_
  have Sf17 := (((r7).trans r14).trans r16).safe (F6).lt Sf2
  have E18 := ((E9.keep q14_0).ext E16)
  have F19 := (q14_2.ext E16)
  have F20 := (q14_3.ext E16)
  have F21 := (q14_4.ext E16)
  have V22 := (q14_6.ext E16)
  have F23 := (q14_5.ext E16)
  refine X16.callV hl (argsL := [(.ref a16)]) (a := a2) i51_17 (c_apM hX X16.old a2 a16 t16 b16 [(32 : Int32), (109 : Int32), (117 : Int32), (115 : Int32), (116 : Int32), (32 : Int32), (98 : Int32), (101 : Int32), (32 : Int32), (97 : Int32), (98 : Int32), (111 : Int32), (118 : Int32), (101 : Int32), (32 : Int32), (122 : Int32), (101 : Int32), (114 : Int32), (111 : Int32)] r_14 kr_14 cs S16 g2 E18 F19 F20 F21 V22 F23 (by simp only [List.length_append, List.length_cons, List.length_nil]; omega) (by have := gq3; simp only [List.length_append, List.length_cons, List.length_nil]; omega) gq3 (Nat.ne_of_lt (Nat.lt_of_lt_of_le (q7_3).lt q14_1)) (Ne.symm (ne16 _ Sf17).1) (Ne.symm (ne16 _ Sf17).2)) E18 (hw _ wd_47) (hw _ wd_48) (hw _ wd_50) (nfSel X16.zw (hw _ wd_50)) (hw _ wd_49) (hw _ wd_31) (hw _ wd_51) (by decide) sf_nil pd32 rfl rfl rfl (W := 2) rfl (by decide) (by decide) (k' := 7) rfl (n' := 218) rfl (by decide) (by decide) fun vm24 T24 h24 v24 X24 r24 Q24 => ?_
  obtain ⟨r_24, kr_24, rfl, q24_0, q24_1, q24_2, q24_3, q24_4, q24_5, q24_6, q24_7⟩ := Q24
  have g25 := Nat.le_trans X16.n0le q24_1
  show Go _ _ _ _ _ _ _ _ _ _ [(.ref a2), (.ref a1), (.ref a1)]
  have E26 := (E18.keep q24_0)
  refine X24.callV hl (argsL := []) (a := a2) i51_20 (c_tsW hX X24.old a2 r_24 kr_24 (cs ++ [(32 : Int32), (109 : Int32), (117 : Int32), (115 : Int32), (116 : Int32), (32 : Int32), (98 : Int32), (101 : Int32), (32 : Int32), (97 : Int32), (98 : Int32), (111 : Int32), (118 : Int32), (101 : Int32), (32 : Int32), (122 : Int32), (101 : Int32), (114 : Int32), (111 : Int32)]) E26 q24_2 q24_3 q24_4 q24_6 q24_5 (by have := gq3; simp only [List.length_append, List.length_cons, List.length_nil]; omega)) E26 (hw _ wd_119) (hw _ wd_120) (hw _ wd_122) (nfSel X24.zw (hw _ wd_122)) (hw _ wd_121) (hw _ wd_31) (hw _ wd_123) (by decide) sf_nil pd33 rfl rfl rfl (W := 2) rfl (by decide) (by decide) (k' := 9) rfl (n' := 266) rfl (by decide) (by decide) fun vm27 T27 h27 v27 X27 r27 Q27 => ?_
  obtain ⟨x_27, t_27, kt_27, rfl, q27_0, q27_1, q27_2, q27_3, q27_4, q27_5, q27_6⟩ := Q27
  have g28 := Nat.le_trans X24.n0le q27_1
  have g29 := Nat.le_trans X24.n0le q27_6
  show Go _ _ _ _ _ _ _ _ _ _ [(.ref x_27), (.ref a1), (.ref a1)]
  have E30 := ((((((A1.ext E2).keep q7_0).keep q14_0).ext E16).keep q24_0).ext q27_0)
  have U31 := ((Unt.keep q24_0 (ninS (Nat.ne_of_lt (Nat.lt_of_lt_of_le (A1).lt (Nat.le_of_eq z2))) nin0) ((Unt.keep q14_0 (ninS (Nat.ne_of_lt (Nat.lt_of_lt_of_le (A1).lt (Nat.le_of_eq z2))) nin0) (Unt.keep q7_0 (ninS (Nat.ne_of_lt (Nat.lt_of_lt_of_le (A1).lt (Nat.le_of_eq z2))) nin0) (U1.ext E2))).ext E16)).ext q27_0)
  have F32 : Fld Z h1 a1 "java/lang/Throwable" "backtrace" "Ljava/lang/Object;" .null := D1 (Or.inl (hw _ wd_212)) (ty := (.object "java/lang/Object")) (by decide)
  have F33 := ((((((F32.ext E2).keep q7_0 (ninS (Nat.ne_of_lt (Nat.lt_of_lt_of_le (A1).lt (Nat.le_of_eq z2))) nin0)).keep q14_0 (ninS (Nat.ne_of_lt (Nat.lt_of_lt_of_le (A1).lt (Nat.le_of_eq z2))) nin0)).ext E16).keep q24_0 (ninS (Nat.ne_of_lt (Nat.lt_of_lt_of_le (A1).lt (Nat.le_of_eq z2))) nin0)).ext q27_0)
  have F34 : Fld Z h1 a1 "java/lang/Throwable" "detailMessage" "Ljava/lang/String;" .null := D1 (Or.inl (hw _ wd_211)) (ty := (.object "java/lang/String")) (by decide)
  have F35 := ((((((F34.ext E2).keep q7_0 (ninS (Nat.ne_of_lt (Nat.lt_of_lt_of_le (A1).lt (Nat.le_of_eq z2))) nin0)).keep q14_0 (ninS (Nat.ne_of_lt (Nat.lt_of_lt_of_le (A1).lt (Nat.le_of_eq z2))) nin0)).ext E16).keep q24_0 (ninS (Nat.ne_of_lt (Nat.lt_of_lt_of_le (A1).lt (Nat.le_of_eq z2))) nin0)).ext q27_0)
  have F36 : Fld Z h1 a1 "java/lang/Throwable" "cause" "Ljava/lang/Throwable;" .null := D1 (Or.inl (hw _ wd_181)) (ty := (.object "java/lang/Throwable")) (by decide)
  have F37 := ((((((F36.ext E2).keep q7_0 (ninS (Nat.ne_of_lt (Nat.lt_of_lt_of_le (A1).lt (Nat.le_of_eq z2))) nin0)).keep q14_0 (ninS (Nat.ne_of_lt (Nat.lt_of_lt_of_le (A1).lt (Nat.le_of_eq z2))) nin0)).ext E16).keep q24_0 (ninS (Nat.ne_of_lt (Nat.lt_of_lt_of_le (A1).lt (Nat.le_of_eq z2))) nin0)).ext q27_0)
  have F38 : Fld Z h1 a1 "java/lang/Throwable" "stackTrace" "[Ljava/lang/StackTraceElement;" .null := D1 (Or.inl (hw _ wd_184)) (ty := (.array (.object "java/lang/StackTraceElement"))) (by decide)
  have F39 := ((((((F38.ext E2).keep q7_0 (ninS (Nat.ne_of_lt (Nat.lt_of_lt_of_le (A1).lt (Nat.le_of_eq z2))) nin0)).keep q14_0 (ninS (Nat.ne_of_lt (Nat.lt_of_lt_of_le (A1).lt (Nat.le_of_eq z2))) nin0)).ext E16).keep q24_0 (ninS (Nat.ne_of_lt (Nat.lt_of_lt_of_le (A1).lt (Nat.le_of_eq z2))) nin0)).ext q27_0)
  have F40 : Fld Z h1 a1 "java/lang/Throwable" "suppressedExceptions" "Ljava/util/List;" .null := D1 (Or.inl (hw _ wd_187)) (ty := (.object "java/util/List")) (by decide)
  have F41 := ((((((F40.ext E2).keep q7_0 (ninS (Nat.ne_of_lt (Nat.lt_of_lt_of_le (A1).lt (Nat.le_of_eq z2))) nin0)).keep q14_0 (ninS (Nat.ne_of_lt (Nat.lt_of_lt_of_le (A1).lt (Nat.le_of_eq z2))) nin0)).ext E16).keep q24_0 (ninS (Nat.ne_of_lt (Nat.lt_of_lt_of_le (A1).lt (Nat.le_of_eq z2))) nin0)).ext q27_0)
  have Sf43 := (((((((CHr.ext E2 X1.chv)).trans r7).trans r14).trans r16).trans r24).trans r27).safe (A1).lt Sf1
  refine X27.callIK hl hKn hFK (argsL := [(.ref x_27)]) (a := a1) i51_23 (c_ia hX X27.old a1 x_27 E30 U31 g1 F33 F35 F37 F39 F41) (hw _ wd_158) (hw _ wd_159) (hw _ wd_28) (hw _ wd_160) rfl (by decide) (sf_cons ⟨Sf43, (E30).lt⟩ sf_nil) pd1 rfl rfl rfl (W := 1) rfl (by decide) (by decide) (k' := 10) rfl (n' := 3018) rfl (by decide) (by decide) fun vm42 T42 h42 v42 X42 r42 Q42 => ?_
  obtain ⟨rfl, q42_0, q42_1, q42_2, q42_3, q42_4⟩ := Q42
  show Go _ _ _ _ _ _ _ _ _ _ [(.ref a1)]
  have E44 := (q27_2.keep q42_0)
  have F45 := (q27_3.keep q42_0 (ninS (Nat.ne_of_gt (Nat.lt_of_lt_of_le (Nat.lt_of_lt_of_le (Nat.lt_of_lt_of_le (Nat.lt_of_lt_of_le (Nat.lt_of_lt_of_le (Nat.lt_of_lt_of_le (A1).lt E2.1) q7_0.1) q14_0.1) E16.1) q24_0.1) q27_1)) nin0))
  have F46 := (q27_4.keep q42_0 (ninS (Nat.ne_of_gt (Nat.lt_of_lt_of_le (Nat.lt_of_lt_of_le (Nat.lt_of_lt_of_le (Nat.lt_of_lt_of_le (Nat.lt_of_lt_of_le (Nat.lt_of_lt_of_le (A1).lt E2.1) q7_0.1) q14_0.1) E16.1) q24_0.1) q27_1)) nin0))
  have V47 := (q27_5.keep q42_0 (ninS (Nat.ne_of_gt (Nat.lt_of_lt_of_le (Nat.lt_of_lt_of_le (Nat.lt_of_lt_of_le (Nat.lt_of_lt_of_le (Nat.lt_of_lt_of_le (Nat.lt_of_lt_of_le (A1).lt E2.1) q7_0.1) q14_0.1) E16.1) q24_0.1) q27_6)) nin0))
  exact X42.areturn i51_26 rfl rfl rfl (by decide) (by decide) (fun sf hsf => ⟨a1, x_27, t_27, kt_27, rfl, (ext_keep (ext_trans (ext_keep (ext_trans (ext_keep (ext_keep (ext_trans E1 E2) q7_0 (allS (Nat.le_trans E1.1 (Nat.le_of_eq z2)) all0)) q14_0 (allS (Nat.le_trans E1.1 (Nat.le_of_eq z2)) all0)) E16) q24_0 (allS (Nat.le_trans E1.1 (Nat.le_of_eq z2)) all0)) q27_0) q42_0 (allS (Nat.le_of_eq z1) all0)), (Nat.le_of_eq z1), q42_1, q42_2, q42_3, q42_4, E44, F45, F46, V47⟩)
theorem c_e0 (hX : own_Ctx l Z a0 zc fm us ss) (hO : Old Z n0 h) (a : Int32) (b : Int32) (c : Int32)  :
    Con [] false l Z own_EL n0 [] (⟨"com/example/yusen/yusen/figures/ChecksNotPositivePinLaw", "expected", "(ICCC)Ljava/lang/String;"⟩ : MethodName) B52 4 (some (.object "java/lang/String")) ({ frames := 0, cells := 2, slots := 80, locals := 0 } : Room) #[(.int (0 : Int32)), (.int a), (.int b), (.int c)] h (fun v h' sf => ∃ (s : Addr) (t : Addr) (kb : ClassId), v = some (.ref s) ∧ Ext h h' ∧ Str Z h' s t kb [(32 : Int32), (109 : Int32), (117 : Int32), (115 : Int32), (116 : Int32), (32 : Int32), (98 : Int32), (101 : Int32), (32 : Int32), (97 : Int32), (98 : Int32), (111 : Int32), (118 : Int32), (101 : Int32), (32 : Int32), (122 : Int32), (101 : Int32), (114 : Int32), (111 : Int32)]) := by
  obtain ⟨hw, hEL, hcs, hcz, hfm, hfr, hst, hKn, hus, hss, had, hhi, hlo⟩ := id hX
  refine Con.intro (Ls := #[.val (.int (0 : Int32)), .val (.int a), .val (.int b), .val (.int c)]) pn52 hEL hO (fun m => rfl) fun C vm T hl X hs => ?_
  have X : On C ({ frames := 0, cells := 2, slots := 80, locals := 0 } : Room) "com/example/yusen/yusen/figures/ChecksNotPositivePinLaw" B52 4 (some (.object "java/lang/String")) "expected" false Z a0 own_EL n0 vm T h 0 0 := X
  refine X.iload_n i52_0 rfl ?_
  refine X.ifN i52_1 (by decide) ?_
  refine X.ldcS rfl (cs := [(32 : Int32), (109 : Int32), (117 : Int32), (115 : Int32), (116 : Int32), (32 : Int32), (98 : Int32), (101 : Int32), (32 : Int32), (97 : Int32), (98 : Int32), (111 : Int32), (118 : Int32), (101 : Int32), (32 : Int32), (122 : Int32), (101 : Int32), (114 : Int32), (111 : Int32)]) i52_4 (hw _ wd_226) (own_wS hw) (List.mem_of_getElem? (i := 1) rfl) lt1_a lt1_b lt1_c (Nat.le_of_ble_eq_true rfl) (nn := 76) (Nat.le_of_eq lt1_d) (by decide) (k' := 2) rfl (n' := 80) rfl (by decide) (by decide) fun vm1 T1 h1 a1 t1 b1 X1 E1 r1 S1 ne1 => ?_
  exact X1.areturn i52_6 rfl rfl rfl (by decide) (by decide) (fun sf hsf => ⟨a1, t1, b1, rfl, E1, S1⟩)
theorem own_hct : ∀ c ∈ ([(32 : Int32), (109 : Int32), (117 : Int32), (115 : Int32), (116 : Int32), (32 : Int32), (98 : Int32), (101 : Int32), (32 : Int32), (97 : Int32), (98 : Int32), (111 : Int32), (118 : Int32), (101 : Int32), (32 : Int32), (122 : Int32), (101 : Int32), (114 : Int32), (111 : Int32)] : List Int32), own_chr c := (own_chrS (by decide) (own_chrS (by decide) (own_chrS (by decide) (own_chrS (by decide) (own_chrS (by decide) (own_chrS (by decide) (own_chrS (by decide) (own_chrS (by decide) (own_chrS (by decide) (own_chrS (by decide) (own_chrS (by decide) (own_chrS (by decide) (own_chrS (by decide) (own_chrS (by decide) (own_chrS (by decide) (own_chrS (by decide) (own_chrS (by decide) (own_chrS (by decide) (own_chrS (by decide) own_chr0)))))))))))))))))))
theorem c_e1 (hX : own_Ctx l Z a0 zc fm us ss) (hO : Old Z n0 h) (a : Int32) (b : Int32) (c : Int32) (ha : own_chr a) (hd : (own_lat a) ∨ ∃ i, ∀ t : List Int32, own_first (a :: t) i) :
    Con [] false l Z own_EL n0 [] (⟨"com/example/yusen/yusen/figures/ChecksNotPositivePinLaw", "expected", "(ICCC)Ljava/lang/String;"⟩ : MethodName) B52 4 (some (.object "java/lang/String")) ({ frames := 6, cells := 4, slots := 90, locals := 88 } : Room) #[(.int (1 : Int32)), (.int a), (.int b), (.int c)] h (fun v h' sf => ∃ (s : Addr) (t : Addr) (kb : ClassId) (cd : Int32) (N : Int32) (vs : List Value), v = some (.ref s) ∧ Ext h h' ∧ h.size ≤ s ∧ Exa Z h' s "java/lang/String" ∧ Fld Z h' s "java/lang/String" "value" "[B" (.ref t) ∧ Fld Z h' s "java/lang/String" "coder" "B" (.int cd) ∧ Arv Z h' t kb .byte N vs (.int (0 : Int32)) ∧ StrChars.Road.CodA [a, (32 : Int32), (109 : Int32), (117 : Int32), (115 : Int32), (116 : Int32), (32 : Int32), (98 : Int32), (101 : Int32), (32 : Int32), (97 : Int32), (98 : Int32), (111 : Int32), (118 : Int32), (101 : Int32), (32 : Int32), (122 : Int32), (101 : Int32), (114 : Int32), (111 : Int32)] cd N vs) := by
  obtain ⟨hw, hEL, hcs, hcz, hfm, hfr, hst, hKn, hus, hss, had, hhi, hlo⟩ := id hX
  refine Con.intro (Ls := #[.val (.int (1 : Int32)), .val (.int a), .val (.int b), .val (.int c)]) pn52 hEL hO (fun m => rfl) fun C vm T hl X hs => ?_
  have X : On C ({ frames := 6, cells := 4, slots := 90, locals := 88 } : Room) "com/example/yusen/yusen/figures/ChecksNotPositivePinLaw" B52 4 (some (.object "java/lang/String")) "expected" false Z a0 own_EL n0 vm T h 0 0 := X
  refine X.iload_n i52_0 rfl ?_
  refine X.ifY i52_1 j1_6 (by decide) ?_
  refine X.iload_n i52_7 rfl ?_
  refine X.iconst i52_8 (z := (1 : Int32)) rfl ?_
  refine X.icN i52_9 (by decide) ?_
  refine X.new i52_12 (hw _ wd_0) (hw _ wd_1) (hw _ wd_2) (k' := 1) rfl (n' := 4) rfl (by decide) (by decide) fun T1 h1 a1 X1 E1 z1 g1 A1 D1 U1 Sf1 => ?_
  refine X1.dup i52_15 rfl ?_
  refine X1.bipush i52_16 (z := (20 : Int32)) rfl ?_
  refine X1.newarray i52_18 (ty := .char) rfl (hw _ wd_3) (by decide) (cap := 20) (by decide) (by decide) (k' := 2) rfl (n' := 24) rfl (by decide) (by decide) fun T2 h2 a2 c2 X2 E2 z2 g2 V2 Sf2 => ?_
  have V2 : Arv Z h2 a2 c2 .char (20 : Int32) [(.int (0 : Int32)), (.int (0 : Int32)), (.int (0 : Int32)), (.int (0 : Int32)), (.int (0 : Int32)), (.int (0 : Int32)), (.int (0 : Int32)), (.int (0 : Int32)), (.int (0 : Int32)), (.int (0 : Int32)), (.int (0 : Int32)), (.int (0 : Int32)), (.int (0 : Int32)), (.int (0 : Int32)), (.int (0 : Int32)), (.int (0 : Int32)), (.int (0 : Int32)), (.int (0 : Int32)), (.int (0 : Int32)), (.int (0 : Int32))] (.int (0 : Int32)) := V2.pad (pad_rep [] (.int (0 : Int32)) 20)
  refine X2.dup i52_20 rfl ?_
  refine X2.iconst i52_21 (z := (0 : Int32)) rfl ?_
  refine X2.iload_n i52_22 rfl ?_
  refine X2.castore i52_23 V2 ⟨by decide, by decide⟩ (i := 0) rfl (Nat.le_of_ble_eq_true rfl) (y := a) (own_i2cw ha) g2 fun T3 h3 X3 W3 V3 => ?_
  refine X3.dup i52_24 rfl ?_
  refine X3.iconst i52_25 (z := (1 : Int32)) rfl ?_
  refine X3.bipush i52_26 (z := (32 : Int32)) rfl ?_
  refine X3.castore i52_28 V3 ⟨by decide, by decide⟩ (i := 1) rfl (Nat.le_of_ble_eq_true rfl) (y := (32 : Int32)) rfl g2 fun T4 h4 X4 W4 V4 => ?_
  refine X4.dup i52_29 rfl ?_
  refine X4.iconst i52_30 (z := (2 : Int32)) rfl ?_
  refine X4.bipush i52_31 (z := (109 : Int32)) rfl ?_
  refine X4.castore i52_33 V4 ⟨by decide, by decide⟩ (i := 2) rfl (Nat.le_of_ble_eq_true rfl) (y := (109 : Int32)) rfl g2 fun T5 h5 X5 W5 V5 => ?_
  refine X5.dup i52_34 rfl ?_
  refine X5.iconst i52_35 (z := (3 : Int32)) rfl ?_
  refine X5.bipush i52_36 (z := (117 : Int32)) rfl ?_
  refine X5.castore i52_38 V5 ⟨by decide, by decide⟩ (i := 3) rfl (Nat.le_of_ble_eq_true rfl) (y := (117 : Int32)) rfl g2 fun T6 h6 X6 W6 V6 => ?_
  refine X6.dup i52_39 rfl ?_
  refine X6.iconst i52_40 (z := (4 : Int32)) rfl ?_
  refine X6.bipush i52_41 (z := (115 : Int32)) rfl ?_
  refine X6.castore i52_43 V6 ⟨by decide, by decide⟩ (i := 4) rfl (Nat.le_of_ble_eq_true rfl) (y := (115 : Int32)) rfl g2 fun T7 h7 X7 W7 V7 => ?_
  refine X7.dup i52_44 rfl ?_
  refine X7.iconst i52_45 (z := (5 : Int32)) rfl ?_
  refine X7.bipush i52_46 (z := (116 : Int32)) rfl ?_
  refine X7.castore i52_48 V7 ⟨by decide, by decide⟩ (i := 5) rfl (Nat.le_of_ble_eq_true rfl) (y := (116 : Int32)) rfl g2 fun T8 h8 X8 W8 V8 => ?_
  refine X8.dup i52_49 rfl ?_
  refine X8.bipush i52_50 (z := (6 : Int32)) rfl ?_
  refine X8.bipush i52_52 (z := (32 : Int32)) rfl ?_
  refine X8.castore i52_54 V8 ⟨by decide, by decide⟩ (i := 6) rfl (Nat.le_of_ble_eq_true rfl) (y := (32 : Int32)) rfl g2 fun T9 h9 X9 W9 V9 => ?_
  have V9 : Arv Z h9 a2 c2 .char (20 : Int32) [(.int a), (.int (32 : Int32)), (.int (109 : Int32)), (.int (117 : Int32)), (.int (115 : Int32)), (.int (116 : Int32)), (.int (32 : Int32)), (.int (0 : Int32)), (.int (0 : Int32)), (.int (0 : Int32)), (.int (0 : Int32)), (.int (0 : Int32)), (.int (0 : Int32)), (.int (0 : Int32)), (.int (0 : Int32)), (.int (0 : Int32)), (.int (0 : Int32)), (.int (0 : Int32)), (.int (0 : Int32)), (.int (0 : Int32))] (.int (0 : Int32)) := V9
  refine X9.dup i52_55 rfl ?_
  refine X9.bipush i52_56 (z := (7 : Int32)) rfl ?_
  refine X9.bipush i52_58 (z := (98 : Int32)) rfl ?_
  refine X9.castore i52_60 V9 ⟨by decide, by decide⟩ (i := 7) rfl (Nat.le_of_ble_eq_true rfl) (y := (98 : Int32)) rfl g2 fun T10 h10 X10 W10 V10 => ?_
  refine X10.dup i52_61 rfl ?_
  refine X10.bipush i52_62 (z := (8 : Int32)) rfl ?_
  refine X10.bipush i52_64 (z := (101 : Int32)) rfl ?_
  refine X10.castore i52_66 V10 ⟨by decide, by decide⟩ (i := 8) rfl (Nat.le_of_ble_eq_true rfl) (y := (101 : Int32)) rfl g2 fun T11 h11 X11 W11 V11 => ?_
  refine X11.dup i52_67 rfl ?_
  refine X11.bipush i52_68 (z := (9 : Int32)) rfl ?_
  refine X11.bipush i52_70 (z := (32 : Int32)) rfl ?_
  refine X11.castore i52_72 V11 ⟨by decide, by decide⟩ (i := 9) rfl (Nat.le_of_ble_eq_true rfl) (y := (32 : Int32)) rfl g2 fun T12 h12 X12 W12 V12 => ?_
  refine X12.dup i52_73 rfl ?_
  refine X12.bipush i52_74 (z := (10 : Int32)) rfl ?_
  refine X12.bipush i52_76 (z := (97 : Int32)) rfl ?_
  refine X12.castore i52_78 V12 ⟨by decide, by decide⟩ (i := 10) rfl (Nat.le_of_ble_eq_true rfl) (y := (97 : Int32)) rfl g2 fun T13 h13 X13 W13 V13 => ?_
  refine X13.dup i52_79 rfl ?_
  refine X13.bipush i52_80 (z := (11 : Int32)) rfl ?_
  refine X13.bipush i52_82 (z := (98 : Int32)) rfl ?_
  refine X13.castore i52_84 V13 ⟨by decide, by decide⟩ (i := 11) rfl (Nat.le_of_ble_eq_true rfl) (y := (98 : Int32)) rfl g2 fun T14 h14 X14 W14 V14 => ?_
  refine X14.dup i52_85 rfl ?_
  refine X14.bipush i52_86 (z := (12 : Int32)) rfl ?_
  refine X14.bipush i52_88 (z := (111 : Int32)) rfl ?_
  refine X14.castore i52_90 V14 ⟨by decide, by decide⟩ (i := 12) rfl (Nat.le_of_ble_eq_true rfl) (y := (111 : Int32)) rfl g2 fun T15 h15 X15 W15 V15 => ?_
  refine X15.dup i52_91 rfl ?_
  refine X15.bipush i52_92 (z := (13 : Int32)) rfl ?_
  refine X15.bipush i52_94 (z := (118 : Int32)) rfl ?_
  refine X15.castore i52_96 V15 ⟨by decide, by decide⟩ (i := 13) rfl (Nat.le_of_ble_eq_true rfl) (y := (118 : Int32)) rfl g2 fun T16 h16 X16 W16 V16 => ?_
  have V16 : Arv Z h16 a2 c2 .char (20 : Int32) [(.int a), (.int (32 : Int32)), (.int (109 : Int32)), (.int (117 : Int32)), (.int (115 : Int32)), (.int (116 : Int32)), (.int (32 : Int32)), (.int (98 : Int32)), (.int (101 : Int32)), (.int (32 : Int32)), (.int (97 : Int32)), (.int (98 : Int32)), (.int (111 : Int32)), (.int (118 : Int32)), (.int (0 : Int32)), (.int (0 : Int32)), (.int (0 : Int32)), (.int (0 : Int32)), (.int (0 : Int32)), (.int (0 : Int32))] (.int (0 : Int32)) := V16
  refine X16.dup i52_97 rfl ?_
  refine X16.bipush i52_98 (z := (14 : Int32)) rfl ?_
  refine X16.bipush i52_100 (z := (101 : Int32)) rfl ?_
  refine X16.castore i52_102 V16 ⟨by decide, by decide⟩ (i := 14) rfl (Nat.le_of_ble_eq_true rfl) (y := (101 : Int32)) rfl g2 fun T17 h17 X17 W17 V17 => ?_
  refine X17.dup i52_103 rfl ?_
  refine X17.bipush i52_104 (z := (15 : Int32)) rfl ?_
  refine X17.bipush i52_106 (z := (32 : Int32)) rfl ?_
  refine X17.castore i52_108 V17 ⟨by decide, by decide⟩ (i := 15) rfl (Nat.le_of_ble_eq_true rfl) (y := (32 : Int32)) rfl g2 fun T18 h18 X18 W18 V18 => ?_
  refine X18.dup i52_109 rfl ?_
  refine X18.bipush i52_110 (z := (16 : Int32)) rfl ?_
  refine X18.bipush i52_112 (z := (122 : Int32)) rfl ?_
  refine X18.castore i52_114 V18 ⟨by decide, by decide⟩ (i := 16) rfl (Nat.le_of_ble_eq_true rfl) (y := (122 : Int32)) rfl g2 fun T19 h19 X19 W19 V19 => ?_
  refine X19.dup i52_115 rfl ?_
  refine X19.bipush i52_116 (z := (17 : Int32)) rfl ?_
  refine X19.bipush i52_118 (z := (101 : Int32)) rfl ?_
  refine X19.castore i52_120 V19 ⟨by decide, by decide⟩ (i := 17) rfl (Nat.le_of_ble_eq_true rfl) (y := (101 : Int32)) rfl g2 fun T20 h20 X20 W20 V20 => ?_
  refine X20.dup i52_121 rfl ?_
  refine X20.bipush i52_122 (z := (18 : Int32)) rfl ?_
  refine X20.bipush i52_124 (z := (114 : Int32)) rfl ?_
  refine X20.castore i52_126 V20 ⟨by decide, by decide⟩ (i := 18) rfl (Nat.le_of_ble_eq_true rfl) (y := (114 : Int32)) rfl g2 fun T21 h21 X21 W21 V21 => ?_
  refine X21.dup i52_127 rfl ?_
  refine X21.bipush i52_128 (z := (19 : Int32)) rfl ?_
  refine X21.bipush i52_130 (z := (111 : Int32)) rfl ?_
  refine X21.castore i52_132 V21 ⟨by decide, by decide⟩ (i := 19) rfl (Nat.le_of_ble_eq_true rfl) (y := (111 : Int32)) rfl g2 fun T22 h22 X22 W22 V22 => ?_
  have E23 := (((((((((((((((((((((A1.ext E2).wr W3).wr W4).wr W5).wr W6).wr W7).wr W8).wr W9).wr W10).wr W11).wr W12).wr W13).wr W14).wr W15).wr W16).wr W17).wr W18).wr W19).wr W20).wr W21).wr W22)
  have F24 : Fld Z h1 a1 "java/lang/String" "value" "[B" .null := D1 (Or.inr (hw _ wd_16)) (ty := (.array .byte)) (by decide)
  have F25 := (((((((((((((((((((((F24.ext E2).other W3 (Or.inl (Nat.ne_of_lt (Nat.lt_of_lt_of_le (A1).lt (Nat.le_of_eq z2))))).other W4 (Or.inl (Nat.ne_of_lt (Nat.lt_of_lt_of_le (A1).lt (Nat.le_of_eq z2))))).other W5 (Or.inl (Nat.ne_of_lt (Nat.lt_of_lt_of_le (A1).lt (Nat.le_of_eq z2))))).other W6 (Or.inl (Nat.ne_of_lt (Nat.lt_of_lt_of_le (A1).lt (Nat.le_of_eq z2))))).other W7 (Or.inl (Nat.ne_of_lt (Nat.lt_of_lt_of_le (A1).lt (Nat.le_of_eq z2))))).other W8 (Or.inl (Nat.ne_of_lt (Nat.lt_of_lt_of_le (A1).lt (Nat.le_of_eq z2))))).other W9 (Or.inl (Nat.ne_of_lt (Nat.lt_of_lt_of_le (A1).lt (Nat.le_of_eq z2))))).other W10 (Or.inl (Nat.ne_of_lt (Nat.lt_of_lt_of_le (A1).lt (Nat.le_of_eq z2))))).other W11 (Or.inl (Nat.ne_of_lt (Nat.lt_of_lt_of_le (A1).lt (Nat.le_of_eq z2))))).other W12 (Or.inl (Nat.ne_of_lt (Nat.lt_of_lt_of_le (A1).lt (Nat.le_of_eq z2))))).other W13 (Or.inl (Nat.ne_of_lt (Nat.lt_of_lt_of_le (A1).lt (Nat.le_of_eq z2))))).other W14 (Or.inl (Nat.ne_of_lt (Nat.lt_of_lt_of_le (A1).lt (Nat.le_of_eq z2))))).other W15 (Or.inl (Nat.ne_of_lt (Nat.lt_of_lt_of_le (A1).lt (Nat.le_of_eq z2))))).other W16 (Or.inl (Nat.ne_of_lt (Nat.lt_of_lt_of_le (A1).lt (Nat.le_of_eq z2))))).other W17 (Or.inl (Nat.ne_of_lt (Nat.lt_of_lt_of_le (A1).lt (Nat.le_of_eq z2))))).other W18 (Or.inl (Nat.ne_of_lt (Nat.lt_of_lt_of_le (A1).lt (Nat.le_of_eq z2))))).other W19 (Or.inl (Nat.ne_of_lt (Nat.lt_of_lt_of_le (A1).lt (Nat.le_of_eq z2))))).other W20 (Or.inl (Nat.ne_of_lt (Nat.lt_of_lt_of_le (A1).lt (Nat.le_of_eq z2))))).other W21 (Or.inl (Nat.ne_of_lt (Nat.lt_of_lt_of_le (A1).lt (Nat.le_of_eq z2))))).other W22 (Or.inl (Nat.ne_of_lt (Nat.lt_of_lt_of_le (A1).lt (Nat.le_of_eq z2)))))
  have F26 : Fld Z h1 a1 "java/lang/String" "coder" "B" (.int (0 : Int32)) := D1 (Or.inr (hw _ wd_17)) (ty := .byte) (by decide)
  have F27 := (((((((((((((((((((((F26.ext E2).other W3 (Or.inl (Nat.ne_of_lt (Nat.lt_of_lt_of_le (A1).lt (Nat.le_of_eq z2))))).other W4 (Or.inl (Nat.ne_of_lt (Nat.lt_of_lt_of_le (A1).lt (Nat.le_of_eq z2))))).other W5 (Or.inl (Nat.ne_of_lt (Nat.lt_of_lt_of_le (A1).lt (Nat.le_of_eq z2))))).other W6 (Or.inl (Nat.ne_of_lt (Nat.lt_of_lt_of_le (A1).lt (Nat.le_of_eq z2))))).other W7 (Or.inl (Nat.ne_of_lt (Nat.lt_of_lt_of_le (A1).lt (Nat.le_of_eq z2))))).other W8 (Or.inl (Nat.ne_of_lt (Nat.lt_of_lt_of_le (A1).lt (Nat.le_of_eq z2))))).other W9 (Or.inl (Nat.ne_of_lt (Nat.lt_of_lt_of_le (A1).lt (Nat.le_of_eq z2))))).other W10 (Or.inl (Nat.ne_of_lt (Nat.lt_of_lt_of_le (A1).lt (Nat.le_of_eq z2))))).other W11 (Or.inl (Nat.ne_of_lt (Nat.lt_of_lt_of_le (A1).lt (Nat.le_of_eq z2))))).other W12 (Or.inl (Nat.ne_of_lt (Nat.lt_of_lt_of_le (A1).lt (Nat.le_of_eq z2))))).other W13 (Or.inl (Nat.ne_of_lt (Nat.lt_of_lt_of_le (A1).lt (Nat.le_of_eq z2))))).other W14 (Or.inl (Nat.ne_of_lt (Nat.lt_of_lt_of_le (A1).lt (Nat.le_of_eq z2))))).other W15 (Or.inl (Nat.ne_of_lt (Nat.lt_of_lt_of_le (A1).lt (Nat.le_of_eq z2))))).other W16 (Or.inl (Nat.ne_of_lt (Nat.lt_of_lt_of_le (A1).lt (Nat.le_of_eq z2))))).other W17 (Or.inl (Nat.ne_of_lt (Nat.lt_of_lt_of_le (A1).lt (Nat.le_of_eq z2))))).other W18 (Or.inl (Nat.ne_of_lt (Nat.lt_of_lt_of_le (A1).lt (Nat.le_of_eq z2))))).other W19 (Or.inl (Nat.ne_of_lt (Nat.lt_of_lt_of_le (A1).lt (Nat.le_of_eq z2))))).other W20 (Or.inl (Nat.ne_of_lt (Nat.lt_of_lt_of_le (A1).lt (Nat.le_of_eq z2))))).other W21 (Or.inl (Nat.ne_of_lt (Nat.lt_of_lt_of_le (A1).lt (Nat.le_of_eq z2))))).other W22 (Or.inl (Nat.ne_of_lt (Nat.lt_of_lt_of_le (A1).lt (Nat.le_of_eq z2)))))
  have Sf28 := ((((((((((((((((((((((CHr.ext E2 X1.chv)).trans (CHr.wr W3 (Safe.arv X2.zw.alike V2 (by simp)) X2.chv)).trans (CHr.wr W4 (Safe.arv X3.zw.alike V3 (by simp)) X3.chv)).trans (CHr.wr W5 (Safe.arv X4.zw.alike V4 (by simp)) X4.chv)).trans (CHr.wr W6 (Safe.arv X5.zw.alike V5 (by simp)) X5.chv)).trans (CHr.wr W7 (Safe.arv X6.zw.alike V6 (by simp)) X6.chv)).trans (CHr.wr W8 (Safe.arv X7.zw.alike V7 (by simp)) X7.chv)).trans (CHr.wr W9 (Safe.arv X8.zw.alike V8 (by simp)) X8.chv)).trans (CHr.wr W10 (Safe.arv X9.zw.alike V9 (by simp)) X9.chv)).trans (CHr.wr W11 (Safe.arv X10.zw.alike V10 (by simp)) X10.chv)).trans (CHr.wr W12 (Safe.arv X11.zw.alike V11 (by simp)) X11.chv)).trans (CHr.wr W13 (Safe.arv X12.zw.alike V12 (by simp)) X12.chv)).trans (CHr.wr W14 (Safe.arv X13.zw.alike V13 (by simp)) X13.chv)).trans (CHr.wr W15 (Safe.arv X14.zw.alike V14 (by simp)) X14.chv)).trans (CHr.wr W16 (Safe.arv X15.zw.alike V15 (by simp)) X15.chv)).trans (CHr.wr W17 (Safe.arv X16.zw.alike V16 (by simp)) X16.chv)).trans (CHr.wr W18 (Safe.arv X17.zw.alike V17 (by simp)) X17.chv)).trans (CHr.wr W19 (Safe.arv X18.zw.alike V18 (by simp)) X18.chv)).trans (CHr.wr W20 (Safe.arv X19.zw.alike V19 (by simp)) X19.chv)).trans (CHr.wr W21 (Safe.arv X20.zw.alike V20 (by simp)) X20.chv)).trans (CHr.wr W22 (Safe.arv X21.zw.alike V21 (by simp)) X21.chv)).safe (A1).lt Sf1
  rcases hd with la | ⟨iw, hwi⟩
  · skip
    have hp29 : ∀ c9 ∈ ([a, (32 : Int32), (109 : Int32), (117 : Int32), (115 : Int32), (116 : Int32), (32 : Int32), (98 : Int32), (101 : Int32), (32 : Int32), (97 : Int32), (98 : Int32), (111 : Int32), (118 : Int32), (101 : Int32), (32 : Int32), (122 : Int32), (101 : Int32), (114 : Int32), (111 : Int32)] : List Int32), ¬ c9 < 0 ∧ ¬ (255 : Int32) < c9 := (own_allS la (own_allS ⟨by decide, by decide⟩ (own_allS ⟨by decide, by decide⟩ (own_allS ⟨by decide, by decide⟩ (own_allS ⟨by decide, by decide⟩ (own_allS ⟨by decide, by decide⟩ (own_allS ⟨by decide, by decide⟩ (own_allS ⟨by decide, by decide⟩ (own_allS ⟨by decide, by decide⟩ (own_allS ⟨by decide, by decide⟩ (own_allS ⟨by decide, by decide⟩ (own_allS ⟨by decide, by decide⟩ (own_allS ⟨by decide, by decide⟩ (own_allS ⟨by decide, by decide⟩ (own_allS ⟨by decide, by decide⟩ (own_allS ⟨by decide, by decide⟩ (own_allS ⟨by decide, by decide⟩ (own_allS ⟨by decide, by decide⟩ (own_allS ⟨by decide, by decide⟩ (own_allS ⟨by decide, by decide⟩ own_all0))))))))))))))))))))
    refine own_strInit X22 hw (cs := [a, (32 : Int32), (109 : Int32), (117 : Int32), (115 : Int32), (116 : Int32), (32 : Int32), (98 : Int32), (101 : Int32), (32 : Int32), (97 : Int32), (98 : Int32), (111 : Int32), (118 : Int32), (101 : Int32), (32 : Int32), (122 : Int32), (101 : Int32), (114 : Int32), (111 : Int32)]) (c0 := a2) i52_133 (hw _ wd_4) g1 E23 F25 F27 V22 rfl (Nat.le_of_ble_eq_true rfl) (Nat.le_of_ble_eq_true rfl) hp29 hcs hcz Sf28 rfl (W := 1) rfl (by decide) (by decide) (k' := 3) rfl (n' := 44) rfl (by decide) (by decide) fun T29 h29 t29 b29 X29 K29 y29 S29 => ?_
    have Fv30 : Fld Z h29 a1 "java/lang/String" "value" "[B" (.ref t29) := S29.2.1
    have Fc30 : Fld Z h29 a1 "java/lang/String" "coder" "B" (.int (0 : Int32)) := S29.2.2.1
    have Vt30 : Arv Z h29 t29 b29 .byte (Int32.ofNat [a, (32 : Int32), (109 : Int32), (117 : Int32), (115 : Int32), (116 : Int32), (32 : Int32), (98 : Int32), (101 : Int32), (32 : Int32), (97 : Int32), (98 : Int32), (111 : Int32), (118 : Int32), (101 : Int32), (32 : Int32), (122 : Int32), (101 : Int32), (114 : Int32), (111 : Int32)].length) ([a, (32 : Int32), (109 : Int32), (117 : Int32), (115 : Int32), (116 : Int32), (32 : Int32), (98 : Int32), (101 : Int32), (32 : Int32), (97 : Int32), (98 : Int32), (111 : Int32), (118 : Int32), (101 : Int32), (32 : Int32), (122 : Int32), (101 : Int32), (114 : Int32), (111 : Int32)].map own_f) (.int (0 : Int32)) := S29.2.2.2.1
    exact X29.areturn i52_136 rfl rfl rfl (by decide) (by decide) (fun sf hsf => ⟨a1, t29, b29, (0 : Int32), (Int32.ofNat [a, (32 : Int32), (109 : Int32), (117 : Int32), (115 : Int32), (116 : Int32), (32 : Int32), (98 : Int32), (101 : Int32), (32 : Int32), (97 : Int32), (98 : Int32), (111 : Int32), (118 : Int32), (101 : Int32), (32 : Int32), (122 : Int32), (101 : Int32), (114 : Int32), (111 : Int32)].length), ([a, (32 : Int32), (109 : Int32), (117 : Int32), (115 : Int32), (116 : Int32), (32 : Int32), (98 : Int32), (101 : Int32), (32 : Int32), (97 : Int32), (98 : Int32), (111 : Int32), (118 : Int32), (101 : Int32), (32 : Int32), (122 : Int32), (101 : Int32), (114 : Int32), (111 : Int32)].map own_f), rfl, (ext_keep (ext_wr (ext_wr (ext_wr (ext_wr (ext_wr (ext_wr (ext_wr (ext_wr (ext_wr (ext_wr (ext_wr (ext_wr (ext_wr (ext_wr (ext_wr (ext_wr (ext_wr (ext_wr (ext_wr (ext_wr (ext_trans E1 E2) W3 (Nat.le_trans E1.1 (Nat.le_of_eq z2))) W4 (Nat.le_trans E1.1 (Nat.le_of_eq z2))) W5 (Nat.le_trans E1.1 (Nat.le_of_eq z2))) W6 (Nat.le_trans E1.1 (Nat.le_of_eq z2))) W7 (Nat.le_trans E1.1 (Nat.le_of_eq z2))) W8 (Nat.le_trans E1.1 (Nat.le_of_eq z2))) W9 (Nat.le_trans E1.1 (Nat.le_of_eq z2))) W10 (Nat.le_trans E1.1 (Nat.le_of_eq z2))) W11 (Nat.le_trans E1.1 (Nat.le_of_eq z2))) W12 (Nat.le_trans E1.1 (Nat.le_of_eq z2))) W13 (Nat.le_trans E1.1 (Nat.le_of_eq z2))) W14 (Nat.le_trans E1.1 (Nat.le_of_eq z2))) W15 (Nat.le_trans E1.1 (Nat.le_of_eq z2))) W16 (Nat.le_trans E1.1 (Nat.le_of_eq z2))) W17 (Nat.le_trans E1.1 (Nat.le_of_eq z2))) W18 (Nat.le_trans E1.1 (Nat.le_of_eq z2))) W19 (Nat.le_trans E1.1 (Nat.le_of_eq z2))) W20 (Nat.le_trans E1.1 (Nat.le_of_eq z2))) W21 (Nat.le_trans E1.1 (Nat.le_of_eq z2))) W22 (Nat.le_trans E1.1 (Nat.le_of_eq z2))) K29 (allS (Nat.le_of_eq z1) all0)), (Nat.le_of_eq z1), S29.1, Fv30, Fc30, Vt30, Or.inl ⟨rfl, rfl, rfl, fun c9 hc9 => (S29.2.2.2.2 c9 hc9).2⟩⟩)
  · skip
    refine X22.callI hl (argsL := [(.ref a2)]) (a := a1) i52_133 (c_w1 hX X22.old a1 a2 c2 (.int (0 : Int32)) [a, (32 : Int32), (109 : Int32), (117 : Int32), (115 : Int32), (116 : Int32), (32 : Int32), (98 : Int32), (101 : Int32), (32 : Int32), (97 : Int32), (98 : Int32), (111 : Int32), (118 : Int32), (101 : Int32), (32 : Int32), (122 : Int32), (101 : Int32), (114 : Int32), (111 : Int32)] iw E23 g1 F25 F27 V22 (Nat.le_of_ble_eq_true rfl) (hwi [(32 : Int32), (109 : Int32), (117 : Int32), (115 : Int32), (116 : Int32), (32 : Int32), (98 : Int32), (101 : Int32), (32 : Int32), (97 : Int32), (98 : Int32), (111 : Int32), (118 : Int32), (101 : Int32), (32 : Int32), (122 : Int32), (101 : Int32), (114 : Int32), (111 : Int32)]) (own_chrS ha own_hct)) (hw _ wd_4) (hw _ wd_5) (hw _ wd_2) (hw _ wd_6) rfl (by decide) (sf_cons ⟨Sf28, (E23).lt⟩ sf_nil) pd34 rfl rfl rfl (W := 1) rfl (by decide) (by decide) (k' := 4) rfl (n' := 90) rfl (by decide) (by decide) fun vm31 T31 h31 v31 X31 r31 Q31 => ?_
    obtain ⟨t_31, kt_31, rfl, q31_0, q31_1, q31_2, q31_3, q31_4, q31_5⟩ := Q31
    have g32 := Nat.le_trans X22.n0le q31_5
    show Go _ _ _ _ _ _ _ _ _ _ [(.ref a1)]
    exact X31.areturn i52_136 rfl rfl rfl (by decide) (by decide) (fun sf hsf => ⟨a1, t_31, kt_31, (1 : Int32), (Int32.ofNat (2 * [a, (32 : Int32), (109 : Int32), (117 : Int32), (115 : Int32), (116 : Int32), (32 : Int32), (98 : Int32), (101 : Int32), (32 : Int32), (97 : Int32), (98 : Int32), (111 : Int32), (118 : Int32), (101 : Int32), (32 : Int32), (122 : Int32), (101 : Int32), (114 : Int32), (111 : Int32)].length)), (own_wb [a, (32 : Int32), (109 : Int32), (117 : Int32), (115 : Int32), (116 : Int32), (32 : Int32), (98 : Int32), (101 : Int32), (32 : Int32), (97 : Int32), (98 : Int32), (111 : Int32), (118 : Int32), (101 : Int32), (32 : Int32), (122 : Int32), (101 : Int32), (114 : Int32), (111 : Int32)]), rfl, (ext_keep (ext_wr (ext_wr (ext_wr (ext_wr (ext_wr (ext_wr (ext_wr (ext_wr (ext_wr (ext_wr (ext_wr (ext_wr (ext_wr (ext_wr (ext_wr (ext_wr (ext_wr (ext_wr (ext_wr (ext_wr (ext_trans E1 E2) W3 (Nat.le_trans E1.1 (Nat.le_of_eq z2))) W4 (Nat.le_trans E1.1 (Nat.le_of_eq z2))) W5 (Nat.le_trans E1.1 (Nat.le_of_eq z2))) W6 (Nat.le_trans E1.1 (Nat.le_of_eq z2))) W7 (Nat.le_trans E1.1 (Nat.le_of_eq z2))) W8 (Nat.le_trans E1.1 (Nat.le_of_eq z2))) W9 (Nat.le_trans E1.1 (Nat.le_of_eq z2))) W10 (Nat.le_trans E1.1 (Nat.le_of_eq z2))) W11 (Nat.le_trans E1.1 (Nat.le_of_eq z2))) W12 (Nat.le_trans E1.1 (Nat.le_of_eq z2))) W13 (Nat.le_trans E1.1 (Nat.le_of_eq z2))) W14 (Nat.le_trans E1.1 (Nat.le_of_eq z2))) W15 (Nat.le_trans E1.1 (Nat.le_of_eq z2))) W16 (Nat.le_trans E1.1 (Nat.le_of_eq z2))) W17 (Nat.le_trans E1.1 (Nat.le_of_eq z2))) W18 (Nat.le_trans E1.1 (Nat.le_of_eq z2))) W19 (Nat.le_trans E1.1 (Nat.le_of_eq z2))) W20 (Nat.le_trans E1.1 (Nat.le_of_eq z2))) W21 (Nat.le_trans E1.1 (Nat.le_of_eq z2))) W22 (Nat.le_trans E1.1 (Nat.le_of_eq z2))) q31_0 (allS (Nat.le_of_eq z1) all0)), (Nat.le_of_eq z1), q31_1, q31_2, q31_3, q31_4, Or.inr ⟨rfl, rfl, rfl, own_firstE (hwi [(32 : Int32), (109 : Int32), (117 : Int32), (115 : Int32), (116 : Int32), (32 : Int32), (98 : Int32), (101 : Int32), (32 : Int32), (97 : Int32), (98 : Int32), (111 : Int32), (118 : Int32), (101 : Int32), (32 : Int32), (122 : Int32), (101 : Int32), (114 : Int32), (111 : Int32)])⟩⟩)
theorem c_e2 (hX : own_Ctx l Z a0 zc fm us ss) (hO : Old Z n0 h) (a : Int32) (b : Int32) (c : Int32) (ha : own_chr a) (hb : own_chr b) (hd : (own_lat a ∧ own_lat b) ∨ ∃ i, ∀ t : List Int32, own_first (a :: b :: t) i) :
    Con [] false l Z own_EL n0 [] (⟨"com/example/yusen/yusen/figures/ChecksNotPositivePinLaw", "expected", "(ICCC)Ljava/lang/String;"⟩ : MethodName) B52 4 (some (.object "java/lang/String")) ({ frames := 6, cells := 4, slots := 91, locals := 88 } : Room) #[(.int (2 : Int32)), (.int a), (.int b), (.int c)] h (fun v h' sf => ∃ (s : Addr) (t : Addr) (kb : ClassId) (cd : Int32) (N : Int32) (vs : List Value), v = some (.ref s) ∧ Ext h h' ∧ h.size ≤ s ∧ Exa Z h' s "java/lang/String" ∧ Fld Z h' s "java/lang/String" "value" "[B" (.ref t) ∧ Fld Z h' s "java/lang/String" "coder" "B" (.int cd) ∧ Arv Z h' t kb .byte N vs (.int (0 : Int32)) ∧ StrChars.Road.CodA [a, b, (32 : Int32), (109 : Int32), (117 : Int32), (115 : Int32), (116 : Int32), (32 : Int32), (98 : Int32), (101 : Int32), (32 : Int32), (97 : Int32), (98 : Int32), (111 : Int32), (118 : Int32), (101 : Int32), (32 : Int32), (122 : Int32), (101 : Int32), (114 : Int32), (111 : Int32)] cd N vs) := by
  obtain ⟨hw, hEL, hcs, hcz, hfm, hfr, hst, hKn, hus, hss, had, hhi, hlo⟩ := id hX
  refine Con.intro (Ls := #[.val (.int (2 : Int32)), .val (.int a), .val (.int b), .val (.int c)]) pn52 hEL hO (fun m => rfl) fun C vm T hl X hs => ?_
  have X : On C ({ frames := 6, cells := 4, slots := 91, locals := 88 } : Room) "com/example/yusen/yusen/figures/ChecksNotPositivePinLaw" B52 4 (some (.object "java/lang/String")) "expected" false Z a0 own_EL n0 vm T h 0 0 := X
  refine X.iload_n i52_0 rfl ?_
  refine X.ifY i52_1 j1_6 (by decide) ?_
  refine X.iload_n i52_7 rfl ?_
  refine X.iconst i52_8 (z := (1 : Int32)) rfl ?_
  refine X.icY i52_9 j9_128 (by decide) ?_
  refine X.iload_n i52_137 rfl ?_
  refine X.iconst i52_138 (z := (2 : Int32)) rfl ?_
  refine X.icN i52_139 (by decide) ?_
  refine X.new i52_142 (hw _ wd_0) (hw _ wd_1) (hw _ wd_2) (k' := 1) rfl (n' := 4) rfl (by decide) (by decide) fun T1 h1 a1 X1 E1 z1 g1 A1 D1 U1 Sf1 => ?_
  refine X1.dup i52_145 rfl ?_
  refine X1.bipush i52_146 (z := (21 : Int32)) rfl ?_
  refine X1.newarray i52_148 (ty := .char) rfl (hw _ wd_3) (by decide) (cap := 21) (by decide) (by decide) (k' := 2) rfl (n' := 25) rfl (by decide) (by decide) fun T2 h2 a2 c2 X2 E2 z2 g2 V2 Sf2 => ?_
  have V2 : Arv Z h2 a2 c2 .char (21 : Int32) [(.int (0 : Int32)), (.int (0 : Int32)), (.int (0 : Int32)), (.int (0 : Int32)), (.int (0 : Int32)), (.int (0 : Int32)), (.int (0 : Int32)), (.int (0 : Int32)), (.int (0 : Int32)), (.int (0 : Int32)), (.int (0 : Int32)), (.int (0 : Int32)), (.int (0 : Int32)), (.int (0 : Int32)), (.int (0 : Int32)), (.int (0 : Int32)), (.int (0 : Int32)), (.int (0 : Int32)), (.int (0 : Int32)), (.int (0 : Int32)), (.int (0 : Int32))] (.int (0 : Int32)) := V2.pad (pad_rep [] (.int (0 : Int32)) 21)
  refine X2.dup i52_150 rfl ?_
  refine X2.iconst i52_151 (z := (0 : Int32)) rfl ?_
  refine X2.iload_n i52_152 rfl ?_
  refine X2.castore i52_153 V2 ⟨by decide, by decide⟩ (i := 0) rfl (Nat.le_of_ble_eq_true rfl) (y := a) (own_i2cw ha) g2 fun T3 h3 X3 W3 V3 => ?_
  refine X3.dup i52_154 rfl ?_
  refine X3.iconst i52_155 (z := (1 : Int32)) rfl ?_
  refine X3.iload_n i52_156 rfl ?_
  refine X3.castore i52_157 V3 ⟨by decide, by decide⟩ (i := 1) rfl (Nat.le_of_ble_eq_true rfl) (y := b) (own_i2cw hb) g2 fun T4 h4 X4 W4 V4 => ?_
  refine X4.dup i52_158 rfl ?_
  refine X4.iconst i52_159 (z := (2 : Int32)) rfl ?_
  refine X4.bipush i52_160 (z := (32 : Int32)) rfl ?_
  refine X4.castore i52_162 V4 ⟨by decide, by decide⟩ (i := 2) rfl (Nat.le_of_ble_eq_true rfl) (y := (32 : Int32)) rfl g2 fun T5 h5 X5 W5 V5 => ?_
  refine X5.dup i52_163 rfl ?_
  refine X5.iconst i52_164 (z := (3 : Int32)) rfl ?_
  refine X5.bipush i52_165 (z := (109 : Int32)) rfl ?_
  refine X5.castore i52_167 V5 ⟨by decide, by decide⟩ (i := 3) rfl (Nat.le_of_ble_eq_true rfl) (y := (109 : Int32)) rfl g2 fun T6 h6 X6 W6 V6 => ?_
  refine X6.dup i52_168 rfl ?_
  refine X6.iconst i52_169 (z := (4 : Int32)) rfl ?_
  refine X6.bipush i52_170 (z := (117 : Int32)) rfl ?_
  refine X6.castore i52_172 V6 ⟨by decide, by decide⟩ (i := 4) rfl (Nat.le_of_ble_eq_true rfl) (y := (117 : Int32)) rfl g2 fun T7 h7 X7 W7 V7 => ?_
  refine X7.dup i52_173 rfl ?_
  refine X7.iconst i52_174 (z := (5 : Int32)) rfl ?_
  refine X7.bipush i52_175 (z := (115 : Int32)) rfl ?_
  refine X7.castore i52_177 V7 ⟨by decide, by decide⟩ (i := 5) rfl (Nat.le_of_ble_eq_true rfl) (y := (115 : Int32)) rfl g2 fun T8 h8 X8 W8 V8 => ?_
  refine X8.dup i52_178 rfl ?_
  refine X8.bipush i52_179 (z := (6 : Int32)) rfl ?_
  refine X8.bipush i52_181 (z := (116 : Int32)) rfl ?_
  refine X8.castore i52_183 V8 ⟨by decide, by decide⟩ (i := 6) rfl (Nat.le_of_ble_eq_true rfl) (y := (116 : Int32)) rfl g2 fun T9 h9 X9 W9 V9 => ?_
  have V9 : Arv Z h9 a2 c2 .char (21 : Int32) [(.int a), (.int b), (.int (32 : Int32)), (.int (109 : Int32)), (.int (117 : Int32)), (.int (115 : Int32)), (.int (116 : Int32)), (.int (0 : Int32)), (.int (0 : Int32)), (.int (0 : Int32)), (.int (0 : Int32)), (.int (0 : Int32)), (.int (0 : Int32)), (.int (0 : Int32)), (.int (0 : Int32)), (.int (0 : Int32)), (.int (0 : Int32)), (.int (0 : Int32)), (.int (0 : Int32)), (.int (0 : Int32)), (.int (0 : Int32))] (.int (0 : Int32)) := V9
  refine X9.dup i52_184 rfl ?_
  refine X9.bipush i52_185 (z := (7 : Int32)) rfl ?_
  refine X9.bipush i52_187 (z := (32 : Int32)) rfl ?_
  refine X9.castore i52_189 V9 ⟨by decide, by decide⟩ (i := 7) rfl (Nat.le_of_ble_eq_true rfl) (y := (32 : Int32)) rfl g2 fun T10 h10 X10 W10 V10 => ?_
  refine X10.dup i52_190 rfl ?_
  refine X10.bipush i52_191 (z := (8 : Int32)) rfl ?_
  refine X10.bipush i52_193 (z := (98 : Int32)) rfl ?_
  refine X10.castore i52_195 V10 ⟨by decide, by decide⟩ (i := 8) rfl (Nat.le_of_ble_eq_true rfl) (y := (98 : Int32)) rfl g2 fun T11 h11 X11 W11 V11 => ?_
  refine X11.dup i52_196 rfl ?_
  refine X11.bipush i52_197 (z := (9 : Int32)) rfl ?_
  refine X11.bipush i52_199 (z := (101 : Int32)) rfl ?_
  refine X11.castore i52_201 V11 ⟨by decide, by decide⟩ (i := 9) rfl (Nat.le_of_ble_eq_true rfl) (y := (101 : Int32)) rfl g2 fun T12 h12 X12 W12 V12 => ?_
  refine X12.dup i52_202 rfl ?_
  refine X12.bipush i52_203 (z := (10 : Int32)) rfl ?_
  refine X12.bipush i52_205 (z := (32 : Int32)) rfl ?_
  refine X12.castore i52_207 V12 ⟨by decide, by decide⟩ (i := 10) rfl (Nat.le_of_ble_eq_true rfl) (y := (32 : Int32)) rfl g2 fun T13 h13 X13 W13 V13 => ?_
  refine X13.dup i52_208 rfl ?_
  refine X13.bipush i52_209 (z := (11 : Int32)) rfl ?_
  refine X13.bipush i52_211 (z := (97 : Int32)) rfl ?_
  refine X13.castore i52_213 V13 ⟨by decide, by decide⟩ (i := 11) rfl (Nat.le_of_ble_eq_true rfl) (y := (97 : Int32)) rfl g2 fun T14 h14 X14 W14 V14 => ?_
  refine X14.dup i52_214 rfl ?_
  refine X14.bipush i52_215 (z := (12 : Int32)) rfl ?_
  refine X14.bipush i52_217 (z := (98 : Int32)) rfl ?_
  refine X14.castore i52_219 V14 ⟨by decide, by decide⟩ (i := 12) rfl (Nat.le_of_ble_eq_true rfl) (y := (98 : Int32)) rfl g2 fun T15 h15 X15 W15 V15 => ?_
  refine X15.dup i52_220 rfl ?_
  refine X15.bipush i52_221 (z := (13 : Int32)) rfl ?_
  refine X15.bipush i52_223 (z := (111 : Int32)) rfl ?_
  refine X15.castore i52_225 V15 ⟨by decide, by decide⟩ (i := 13) rfl (Nat.le_of_ble_eq_true rfl) (y := (111 : Int32)) rfl g2 fun T16 h16 X16 W16 V16 => ?_
  have V16 : Arv Z h16 a2 c2 .char (21 : Int32) [(.int a), (.int b), (.int (32 : Int32)), (.int (109 : Int32)), (.int (117 : Int32)), (.int (115 : Int32)), (.int (116 : Int32)), (.int (32 : Int32)), (.int (98 : Int32)), (.int (101 : Int32)), (.int (32 : Int32)), (.int (97 : Int32)), (.int (98 : Int32)), (.int (111 : Int32)), (.int (0 : Int32)), (.int (0 : Int32)), (.int (0 : Int32)), (.int (0 : Int32)), (.int (0 : Int32)), (.int (0 : Int32)), (.int (0 : Int32))] (.int (0 : Int32)) := V16
  refine X16.dup i52_226 rfl ?_
  refine X16.bipush i52_227 (z := (14 : Int32)) rfl ?_
  refine X16.bipush i52_229 (z := (118 : Int32)) rfl ?_
  refine X16.castore i52_231 V16 ⟨by decide, by decide⟩ (i := 14) rfl (Nat.le_of_ble_eq_true rfl) (y := (118 : Int32)) rfl g2 fun T17 h17 X17 W17 V17 => ?_
  refine X17.dup i52_232 rfl ?_
  refine X17.bipush i52_233 (z := (15 : Int32)) rfl ?_
  refine X17.bipush i52_235 (z := (101 : Int32)) rfl ?_
  refine X17.castore i52_237 V17 ⟨by decide, by decide⟩ (i := 15) rfl (Nat.le_of_ble_eq_true rfl) (y := (101 : Int32)) rfl g2 fun T18 h18 X18 W18 V18 => ?_
  refine X18.dup i52_238 rfl ?_
  refine X18.bipush i52_239 (z := (16 : Int32)) rfl ?_
  refine X18.bipush i52_241 (z := (32 : Int32)) rfl ?_
  refine X18.castore i52_243 V18 ⟨by decide, by decide⟩ (i := 16) rfl (Nat.le_of_ble_eq_true rfl) (y := (32 : Int32)) rfl g2 fun T19 h19 X19 W19 V19 => ?_
  refine X19.dup i52_244 rfl ?_
  refine X19.bipush i52_245 (z := (17 : Int32)) rfl ?_
  refine X19.bipush i52_247 (z := (122 : Int32)) rfl ?_
  refine X19.castore i52_249 V19 ⟨by decide, by decide⟩ (i := 17) rfl (Nat.le_of_ble_eq_true rfl) (y := (122 : Int32)) rfl g2 fun T20 h20 X20 W20 V20 => ?_
  refine X20.dup i52_250 rfl ?_
  refine X20.bipush i52_251 (z := (18 : Int32)) rfl ?_
  refine X20.bipush i52_253 (z := (101 : Int32)) rfl ?_
  refine X20.castore i52_255 V20 ⟨by decide, by decide⟩ (i := 18) rfl (Nat.le_of_ble_eq_true rfl) (y := (101 : Int32)) rfl g2 fun T21 h21 X21 W21 V21 => ?_
  refine X21.dup i52_256 rfl ?_
  refine X21.bipush i52_257 (z := (19 : Int32)) rfl ?_
  refine X21.bipush i52_259 (z := (114 : Int32)) rfl ?_
  refine X21.castore i52_261 V21 ⟨by decide, by decide⟩ (i := 19) rfl (Nat.le_of_ble_eq_true rfl) (y := (114 : Int32)) rfl g2 fun T22 h22 X22 W22 V22 => ?_
  refine X22.dup i52_262 rfl ?_
  refine X22.bipush i52_263 (z := (20 : Int32)) rfl ?_
  refine X22.bipush i52_265 (z := (111 : Int32)) rfl ?_
  refine X22.castore i52_267 V22 ⟨by decide, by decide⟩ (i := 20) rfl (Nat.le_of_ble_eq_true rfl) (y := (111 : Int32)) rfl g2 fun T23 h23 X23 W23 V23 => ?_
  have V23 : Arv Z h23 a2 c2 .char (21 : Int32) [(.int a), (.int b), (.int (32 : Int32)), (.int (109 : Int32)), (.int (117 : Int32)), (.int (115 : Int32)), (.int (116 : Int32)), (.int (32 : Int32)), (.int (98 : Int32)), (.int (101 : Int32)), (.int (32 : Int32)), (.int (97 : Int32)), (.int (98 : Int32)), (.int (111 : Int32)), (.int (118 : Int32)), (.int (101 : Int32)), (.int (32 : Int32)), (.int (122 : Int32)), (.int (101 : Int32)), (.int (114 : Int32)), (.int (111 : Int32))] (.int (0 : Int32)) := V23
  have E24 := ((((((((((((((((((((((A1.ext E2).wr W3).wr W4).wr W5).wr W6).wr W7).wr W8).wr W9).wr W10).wr W11).wr W12).wr W13).wr W14).wr W15).wr W16).wr W17).wr W18).wr W19).wr W20).wr W21).wr W22).wr W23)
  have F25 : Fld Z h1 a1 "java/lang/String" "value" "[B" .null := D1 (Or.inr (hw _ wd_16)) (ty := (.array .byte)) (by decide)
  have F26 := ((((((((((((((((((((((F25.ext E2).other W3 (Or.inl (Nat.ne_of_lt (Nat.lt_of_lt_of_le (A1).lt (Nat.le_of_eq z2))))).other W4 (Or.inl (Nat.ne_of_lt (Nat.lt_of_lt_of_le (A1).lt (Nat.le_of_eq z2))))).other W5 (Or.inl (Nat.ne_of_lt (Nat.lt_of_lt_of_le (A1).lt (Nat.le_of_eq z2))))).other W6 (Or.inl (Nat.ne_of_lt (Nat.lt_of_lt_of_le (A1).lt (Nat.le_of_eq z2))))).other W7 (Or.inl (Nat.ne_of_lt (Nat.lt_of_lt_of_le (A1).lt (Nat.le_of_eq z2))))).other W8 (Or.inl (Nat.ne_of_lt (Nat.lt_of_lt_of_le (A1).lt (Nat.le_of_eq z2))))).other W9 (Or.inl (Nat.ne_of_lt (Nat.lt_of_lt_of_le (A1).lt (Nat.le_of_eq z2))))).other W10 (Or.inl (Nat.ne_of_lt (Nat.lt_of_lt_of_le (A1).lt (Nat.le_of_eq z2))))).other W11 (Or.inl (Nat.ne_of_lt (Nat.lt_of_lt_of_le (A1).lt (Nat.le_of_eq z2))))).other W12 (Or.inl (Nat.ne_of_lt (Nat.lt_of_lt_of_le (A1).lt (Nat.le_of_eq z2))))).other W13 (Or.inl (Nat.ne_of_lt (Nat.lt_of_lt_of_le (A1).lt (Nat.le_of_eq z2))))).other W14 (Or.inl (Nat.ne_of_lt (Nat.lt_of_lt_of_le (A1).lt (Nat.le_of_eq z2))))).other W15 (Or.inl (Nat.ne_of_lt (Nat.lt_of_lt_of_le (A1).lt (Nat.le_of_eq z2))))).other W16 (Or.inl (Nat.ne_of_lt (Nat.lt_of_lt_of_le (A1).lt (Nat.le_of_eq z2))))).other W17 (Or.inl (Nat.ne_of_lt (Nat.lt_of_lt_of_le (A1).lt (Nat.le_of_eq z2))))).other W18 (Or.inl (Nat.ne_of_lt (Nat.lt_of_lt_of_le (A1).lt (Nat.le_of_eq z2))))).other W19 (Or.inl (Nat.ne_of_lt (Nat.lt_of_lt_of_le (A1).lt (Nat.le_of_eq z2))))).other W20 (Or.inl (Nat.ne_of_lt (Nat.lt_of_lt_of_le (A1).lt (Nat.le_of_eq z2))))).other W21 (Or.inl (Nat.ne_of_lt (Nat.lt_of_lt_of_le (A1).lt (Nat.le_of_eq z2))))).other W22 (Or.inl (Nat.ne_of_lt (Nat.lt_of_lt_of_le (A1).lt (Nat.le_of_eq z2))))).other W23 (Or.inl (Nat.ne_of_lt (Nat.lt_of_lt_of_le (A1).lt (Nat.le_of_eq z2)))))
  have F27 : Fld Z h1 a1 "java/lang/String" "coder" "B" (.int (0 : Int32)) := D1 (Or.inr (hw _ wd_17)) (ty := .byte) (by decide)
  have F28 := ((((((((((((((((((((((F27.ext E2).other W3 (Or.inl (Nat.ne_of_lt (Nat.lt_of_lt_of_le (A1).lt (Nat.le_of_eq z2))))).other W4 (Or.inl (Nat.ne_of_lt (Nat.lt_of_lt_of_le (A1).lt (Nat.le_of_eq z2))))).other W5 (Or.inl (Nat.ne_of_lt (Nat.lt_of_lt_of_le (A1).lt (Nat.le_of_eq z2))))).other W6 (Or.inl (Nat.ne_of_lt (Nat.lt_of_lt_of_le (A1).lt (Nat.le_of_eq z2))))).other W7 (Or.inl (Nat.ne_of_lt (Nat.lt_of_lt_of_le (A1).lt (Nat.le_of_eq z2))))).other W8 (Or.inl (Nat.ne_of_lt (Nat.lt_of_lt_of_le (A1).lt (Nat.le_of_eq z2))))).other W9 (Or.inl (Nat.ne_of_lt (Nat.lt_of_lt_of_le (A1).lt (Nat.le_of_eq z2))))).other W10 (Or.inl (Nat.ne_of_lt (Nat.lt_of_lt_of_le (A1).lt (Nat.le_of_eq z2))))).other W11 (Or.inl (Nat.ne_of_lt (Nat.lt_of_lt_of_le (A1).lt (Nat.le_of_eq z2))))).other W12 (Or.inl (Nat.ne_of_lt (Nat.lt_of_lt_of_le (A1).lt (Nat.le_of_eq z2))))).other W13 (Or.inl (Nat.ne_of_lt (Nat.lt_of_lt_of_le (A1).lt (Nat.le_of_eq z2))))).other W14 (Or.inl (Nat.ne_of_lt (Nat.lt_of_lt_of_le (A1).lt (Nat.le_of_eq z2))))).other W15 (Or.inl (Nat.ne_of_lt (Nat.lt_of_lt_of_le (A1).lt (Nat.le_of_eq z2))))).other W16 (Or.inl (Nat.ne_of_lt (Nat.lt_of_lt_of_le (A1).lt (Nat.le_of_eq z2))))).other W17 (Or.inl (Nat.ne_of_lt (Nat.lt_of_lt_of_le (A1).lt (Nat.le_of_eq z2))))).other W18 (Or.inl (Nat.ne_of_lt (Nat.lt_of_lt_of_le (A1).lt (Nat.le_of_eq z2))))).other W19 (Or.inl (Nat.ne_of_lt (Nat.lt_of_lt_of_le (A1).lt (Nat.le_of_eq z2))))).other W20 (Or.inl (Nat.ne_of_lt (Nat.lt_of_lt_of_le (A1).lt (Nat.le_of_eq z2))))).other W21 (Or.inl (Nat.ne_of_lt (Nat.lt_of_lt_of_le (A1).lt (Nat.le_of_eq z2))))).other W22 (Or.inl (Nat.ne_of_lt (Nat.lt_of_lt_of_le (A1).lt (Nat.le_of_eq z2))))).other W23 (Or.inl (Nat.ne_of_lt (Nat.lt_of_lt_of_le (A1).lt (Nat.le_of_eq z2)))))
  have Sf29 := (((((((((((((((((((((((CHr.ext E2 X1.chv)).trans (CHr.wr W3 (Safe.arv X2.zw.alike V2 (by simp)) X2.chv)).trans (CHr.wr W4 (Safe.arv X3.zw.alike V3 (by simp)) X3.chv)).trans (CHr.wr W5 (Safe.arv X4.zw.alike V4 (by simp)) X4.chv)).trans (CHr.wr W6 (Safe.arv X5.zw.alike V5 (by simp)) X5.chv)).trans (CHr.wr W7 (Safe.arv X6.zw.alike V6 (by simp)) X6.chv)).trans (CHr.wr W8 (Safe.arv X7.zw.alike V7 (by simp)) X7.chv)).trans (CHr.wr W9 (Safe.arv X8.zw.alike V8 (by simp)) X8.chv)).trans (CHr.wr W10 (Safe.arv X9.zw.alike V9 (by simp)) X9.chv)).trans (CHr.wr W11 (Safe.arv X10.zw.alike V10 (by simp)) X10.chv)).trans (CHr.wr W12 (Safe.arv X11.zw.alike V11 (by simp)) X11.chv)).trans (CHr.wr W13 (Safe.arv X12.zw.alike V12 (by simp)) X12.chv)).trans (CHr.wr W14 (Safe.arv X13.zw.alike V13 (by simp)) X13.chv)).trans (CHr.wr W15 (Safe.arv X14.zw.alike V14 (by simp)) X14.chv)).trans (CHr.wr W16 (Safe.arv X15.zw.alike V15 (by simp)) X15.chv)).trans (CHr.wr W17 (Safe.arv X16.zw.alike V16 (by simp)) X16.chv)).trans (CHr.wr W18 (Safe.arv X17.zw.alike V17 (by simp)) X17.chv)).trans (CHr.wr W19 (Safe.arv X18.zw.alike V18 (by simp)) X18.chv)).trans (CHr.wr W20 (Safe.arv X19.zw.alike V19 (by simp)) X19.chv)).trans (CHr.wr W21 (Safe.arv X20.zw.alike V20 (by simp)) X20.chv)).trans (CHr.wr W22 (Safe.arv X21.zw.alike V21 (by simp)) X21.chv)).trans (CHr.wr W23 (Safe.arv X22.zw.alike V22 (by simp)) X22.chv)).safe (A1).lt Sf1
  rcases hd with ⟨la, lb⟩ | ⟨iw, hwi⟩
  · skip
    have hp30 : ∀ c9 ∈ ([a, b, (32 : Int32), (109 : Int32), (117 : Int32), (115 : Int32), (116 : Int32), (32 : Int32), (98 : Int32), (101 : Int32), (32 : Int32), (97 : Int32), (98 : Int32), (111 : Int32), (118 : Int32), (101 : Int32), (32 : Int32), (122 : Int32), (101 : Int32), (114 : Int32), (111 : Int32)] : List Int32), ¬ c9 < 0 ∧ ¬ (255 : Int32) < c9 := (own_allS la (own_allS lb (own_allS ⟨by decide, by decide⟩ (own_allS ⟨by decide, by decide⟩ (own_allS ⟨by decide, by decide⟩ (own_allS ⟨by decide, by decide⟩ (own_allS ⟨by decide, by decide⟩ (own_allS ⟨by decide, by decide⟩ (own_allS ⟨by decide, by decide⟩ (own_allS ⟨by decide, by decide⟩ (own_allS ⟨by decide, by decide⟩ (own_allS ⟨by decide, by decide⟩ (own_allS ⟨by decide, by decide⟩ (own_allS ⟨by decide, by decide⟩ (own_allS ⟨by decide, by decide⟩ (own_allS ⟨by decide, by decide⟩ (own_allS ⟨by decide, by decide⟩ (own_allS ⟨by decide, by decide⟩ (own_allS ⟨by decide, by decide⟩ (own_allS ⟨by decide, by decide⟩ (own_allS ⟨by decide, by decide⟩ own_all0)))))))))))))))))))))
    refine own_strInit X23 hw (cs := [a, b, (32 : Int32), (109 : Int32), (117 : Int32), (115 : Int32), (116 : Int32), (32 : Int32), (98 : Int32), (101 : Int32), (32 : Int32), (97 : Int32), (98 : Int32), (111 : Int32), (118 : Int32), (101 : Int32), (32 : Int32), (122 : Int32), (101 : Int32), (114 : Int32), (111 : Int32)]) (c0 := a2) i52_268 (hw _ wd_4) g1 E24 F26 F28 V23 rfl (Nat.le_of_ble_eq_true rfl) (Nat.le_of_ble_eq_true rfl) hp30 hcs hcz Sf29 rfl (W := 1) rfl (by decide) (by decide) (k' := 3) rfl (n' := 46) rfl (by decide) (by decide) fun T30 h30 t30 b30 X30 K30 y30 S30 => ?_
    have Fv31 : Fld Z h30 a1 "java/lang/String" "value" "[B" (.ref t30) := S30.2.1
    have Fc31 : Fld Z h30 a1 "java/lang/String" "coder" "B" (.int (0 : Int32)) := S30.2.2.1
    have Vt31 : Arv Z h30 t30 b30 .byte (Int32.ofNat [a, b, (32 : Int32), (109 : Int32), (117 : Int32), (115 : Int32), (116 : Int32), (32 : Int32), (98 : Int32), (101 : Int32), (32 : Int32), (97 : Int32), (98 : Int32), (111 : Int32), (118 : Int32), (101 : Int32), (32 : Int32), (122 : Int32), (101 : Int32), (114 : Int32), (111 : Int32)].length) ([a, b, (32 : Int32), (109 : Int32), (117 : Int32), (115 : Int32), (116 : Int32), (32 : Int32), (98 : Int32), (101 : Int32), (32 : Int32), (97 : Int32), (98 : Int32), (111 : Int32), (118 : Int32), (101 : Int32), (32 : Int32), (122 : Int32), (101 : Int32), (114 : Int32), (111 : Int32)].map own_f) (.int (0 : Int32)) := S30.2.2.2.1
    exact X30.areturn i52_271 rfl rfl rfl (by decide) (by decide) (fun sf hsf => ⟨a1, t30, b30, (0 : Int32), (Int32.ofNat [a, b, (32 : Int32), (109 : Int32), (117 : Int32), (115 : Int32), (116 : Int32), (32 : Int32), (98 : Int32), (101 : Int32), (32 : Int32), (97 : Int32), (98 : Int32), (111 : Int32), (118 : Int32), (101 : Int32), (32 : Int32), (122 : Int32), (101 : Int32), (114 : Int32), (111 : Int32)].length), ([a, b, (32 : Int32), (109 : Int32), (117 : Int32), (115 : Int32), (116 : Int32), (32 : Int32), (98 : Int32), (101 : Int32), (32 : Int32), (97 : Int32), (98 : Int32), (111 : Int32), (118 : Int32), (101 : Int32), (32 : Int32), (122 : Int32), (101 : Int32), (114 : Int32), (111 : Int32)].map own_f), rfl, (ext_keep (ext_wr (ext_wr (ext_wr (ext_wr (ext_wr (ext_wr (ext_wr (ext_wr (ext_wr (ext_wr (ext_wr (ext_wr (ext_wr (ext_wr (ext_wr (ext_wr (ext_wr (ext_wr (ext_wr (ext_wr (ext_wr (ext_trans E1 E2) W3 (Nat.le_trans E1.1 (Nat.le_of_eq z2))) W4 (Nat.le_trans E1.1 (Nat.le_of_eq z2))) W5 (Nat.le_trans E1.1 (Nat.le_of_eq z2))) W6 (Nat.le_trans E1.1 (Nat.le_of_eq z2))) W7 (Nat.le_trans E1.1 (Nat.le_of_eq z2))) W8 (Nat.le_trans E1.1 (Nat.le_of_eq z2))) W9 (Nat.le_trans E1.1 (Nat.le_of_eq z2))) W10 (Nat.le_trans E1.1 (Nat.le_of_eq z2))) W11 (Nat.le_trans E1.1 (Nat.le_of_eq z2))) W12 (Nat.le_trans E1.1 (Nat.le_of_eq z2))) W13 (Nat.le_trans E1.1 (Nat.le_of_eq z2))) W14 (Nat.le_trans E1.1 (Nat.le_of_eq z2))) W15 (Nat.le_trans E1.1 (Nat.le_of_eq z2))) W16 (Nat.le_trans E1.1 (Nat.le_of_eq z2))) W17 (Nat.le_trans E1.1 (Nat.le_of_eq z2))) W18 (Nat.le_trans E1.1 (Nat.le_of_eq z2))) W19 (Nat.le_trans E1.1 (Nat.le_of_eq z2))) W20 (Nat.le_trans E1.1 (Nat.le_of_eq z2))) W21 (Nat.le_trans E1.1 (Nat.le_of_eq z2))) W22 (Nat.le_trans E1.1 (Nat.le_of_eq z2))) W23 (Nat.le_trans E1.1 (Nat.le_of_eq z2))) K30 (allS (Nat.le_of_eq z1) all0)), (Nat.le_of_eq z1), S30.1, Fv31, Fc31, Vt31, Or.inl ⟨rfl, rfl, rfl, fun c9 hc9 => (S30.2.2.2.2 c9 hc9).2⟩⟩)
  · skip
    refine X23.callI hl (argsL := [(.ref a2)]) (a := a1) i52_268 (c_w1 hX X23.old a1 a2 c2 (.int (0 : Int32)) [a, b, (32 : Int32), (109 : Int32), (117 : Int32), (115 : Int32), (116 : Int32), (32 : Int32), (98 : Int32), (101 : Int32), (32 : Int32), (97 : Int32), (98 : Int32), (111 : Int32), (118 : Int32), (101 : Int32), (32 : Int32), (122 : Int32), (101 : Int32), (114 : Int32), (111 : Int32)] iw E24 g1 F26 F28 V23 (Nat.le_of_ble_eq_true rfl) (hwi [(32 : Int32), (109 : Int32), (117 : Int32), (115 : Int32), (116 : Int32), (32 : Int32), (98 : Int32), (101 : Int32), (32 : Int32), (97 : Int32), (98 : Int32), (111 : Int32), (118 : Int32), (101 : Int32), (32 : Int32), (122 : Int32), (101 : Int32), (114 : Int32), (111 : Int32)]) (own_chrS ha (own_chrS hb own_hct))) (hw _ wd_4) (hw _ wd_5) (hw _ wd_2) (hw _ wd_6) rfl (by decide) (sf_cons ⟨Sf29, (E24).lt⟩ sf_nil) pd34 rfl rfl rfl (W := 1) rfl (by decide) (by decide) (k' := 4) rfl (n' := 91) rfl (by decide) (by decide) fun vm32 T32 h32 v32 X32 r32 Q32 => ?_
    obtain ⟨t_32, kt_32, rfl, q32_0, q32_1, q32_2, q32_3, q32_4, q32_5⟩ := Q32
    have g33 := Nat.le_trans X23.n0le q32_5
    show Go _ _ _ _ _ _ _ _ _ _ [(.ref a1)]
    exact X32.areturn i52_271 rfl rfl rfl (by decide) (by decide) (fun sf hsf => ⟨a1, t_32, kt_32, (1 : Int32), (Int32.ofNat (2 * [a, b, (32 : Int32), (109 : Int32), (117 : Int32), (115 : Int32), (116 : Int32), (32 : Int32), (98 : Int32), (101 : Int32), (32 : Int32), (97 : Int32), (98 : Int32), (111 : Int32), (118 : Int32), (101 : Int32), (32 : Int32), (122 : Int32), (101 : Int32), (114 : Int32), (111 : Int32)].length)), (own_wb [a, b, (32 : Int32), (109 : Int32), (117 : Int32), (115 : Int32), (116 : Int32), (32 : Int32), (98 : Int32), (101 : Int32), (32 : Int32), (97 : Int32), (98 : Int32), (111 : Int32), (118 : Int32), (101 : Int32), (32 : Int32), (122 : Int32), (101 : Int32), (114 : Int32), (111 : Int32)]), rfl, (ext_keep (ext_wr (ext_wr (ext_wr (ext_wr (ext_wr (ext_wr (ext_wr (ext_wr (ext_wr (ext_wr (ext_wr (ext_wr (ext_wr (ext_wr (ext_wr (ext_wr (ext_wr (ext_wr (ext_wr (ext_wr (ext_wr (ext_trans E1 E2) W3 (Nat.le_trans E1.1 (Nat.le_of_eq z2))) W4 (Nat.le_trans E1.1 (Nat.le_of_eq z2))) W5 (Nat.le_trans E1.1 (Nat.le_of_eq z2))) W6 (Nat.le_trans E1.1 (Nat.le_of_eq z2))) W7 (Nat.le_trans E1.1 (Nat.le_of_eq z2))) W8 (Nat.le_trans E1.1 (Nat.le_of_eq z2))) W9 (Nat.le_trans E1.1 (Nat.le_of_eq z2))) W10 (Nat.le_trans E1.1 (Nat.le_of_eq z2))) W11 (Nat.le_trans E1.1 (Nat.le_of_eq z2))) W12 (Nat.le_trans E1.1 (Nat.le_of_eq z2))) W13 (Nat.le_trans E1.1 (Nat.le_of_eq z2))) W14 (Nat.le_trans E1.1 (Nat.le_of_eq z2))) W15 (Nat.le_trans E1.1 (Nat.le_of_eq z2))) W16 (Nat.le_trans E1.1 (Nat.le_of_eq z2))) W17 (Nat.le_trans E1.1 (Nat.le_of_eq z2))) W18 (Nat.le_trans E1.1 (Nat.le_of_eq z2))) W19 (Nat.le_trans E1.1 (Nat.le_of_eq z2))) W20 (Nat.le_trans E1.1 (Nat.le_of_eq z2))) W21 (Nat.le_trans E1.1 (Nat.le_of_eq z2))) W22 (Nat.le_trans E1.1 (Nat.le_of_eq z2))) W23 (Nat.le_trans E1.1 (Nat.le_of_eq z2))) q32_0 (allS (Nat.le_of_eq z1) all0)), (Nat.le_of_eq z1), q32_1, q32_2, q32_3, q32_4, Or.inr ⟨rfl, rfl, rfl, own_firstE (hwi [(32 : Int32), (109 : Int32), (117 : Int32), (115 : Int32), (116 : Int32), (32 : Int32), (98 : Int32), (101 : Int32), (32 : Int32), (97 : Int32), (98 : Int32), (111 : Int32), (118 : Int32), (101 : Int32), (32 : Int32), (122 : Int32), (101 : Int32), (114 : Int32), (111 : Int32)])⟩⟩)
theorem c_e3 (hX : own_Ctx l Z a0 zc fm us ss) (hO : Old Z n0 h) (a : Int32) (b : Int32) (c : Int32) (ha : own_chr a) (hb : own_chr b) (hc : own_chr c) (hd : (own_lat a ∧ own_lat b ∧ own_lat c) ∨ ∃ i, ∀ t : List Int32, own_first (a :: b :: c :: t) i) :
    Con [] false l Z own_EL n0 [] (⟨"com/example/yusen/yusen/figures/ChecksNotPositivePinLaw", "expected", "(ICCC)Ljava/lang/String;"⟩ : MethodName) B52 4 (some (.object "java/lang/String")) ({ frames := 6, cells := 4, slots := 92, locals := 88 } : Room) #[(.int (3 : Int32)), (.int a), (.int b), (.int c)] h (fun v h' sf => ∃ (s : Addr) (t : Addr) (kb : ClassId) (cd : Int32) (N : Int32) (vs : List Value), v = some (.ref s) ∧ Ext h h' ∧ h.size ≤ s ∧ Exa Z h' s "java/lang/String" ∧ Fld Z h' s "java/lang/String" "value" "[B" (.ref t) ∧ Fld Z h' s "java/lang/String" "coder" "B" (.int cd) ∧ Arv Z h' t kb .byte N vs (.int (0 : Int32)) ∧ StrChars.Road.CodA [a, b, c, (32 : Int32), (109 : Int32), (117 : Int32), (115 : Int32), (116 : Int32), (32 : Int32), (98 : Int32), (101 : Int32), (32 : Int32), (97 : Int32), (98 : Int32), (111 : Int32), (118 : Int32), (101 : Int32), (32 : Int32), (122 : Int32), (101 : Int32), (114 : Int32), (111 : Int32)] cd N vs) := by
  obtain ⟨hw, hEL, hcs, hcz, hfm, hfr, hst, hKn, hus, hss, had, hhi, hlo⟩ := id hX
  refine Con.intro (Ls := #[.val (.int (3 : Int32)), .val (.int a), .val (.int b), .val (.int c)]) pn52 hEL hO (fun m => rfl) fun C vm T hl X hs => ?_
  have X : On C ({ frames := 6, cells := 4, slots := 92, locals := 88 } : Room) "com/example/yusen/yusen/figures/ChecksNotPositivePinLaw" B52 4 (some (.object "java/lang/String")) "expected" false Z a0 own_EL n0 vm T h 0 0 := X
  refine X.iload_n i52_0 rfl ?_
  refine X.ifY i52_1 j1_6 (by decide) ?_
  refine X.iload_n i52_7 rfl ?_
  refine X.iconst i52_8 (z := (1 : Int32)) rfl ?_
  refine X.icY i52_9 j9_128 (by decide) ?_
  refine X.iload_n i52_137 rfl ?_
  refine X.iconst i52_138 (z := (2 : Int32)) rfl ?_
  refine X.icY i52_139 j139_133 (by decide) ?_
  refine X.new i52_272 (hw _ wd_0) (hw _ wd_1) (hw _ wd_2) (k' := 1) rfl (n' := 4) rfl (by decide) (by decide) fun T1 h1 a1 X1 E1 z1 g1 A1 D1 U1 Sf1 => ?_
  refine X1.dup i52_275 rfl ?_
  refine X1.bipush i52_276 (z := (22 : Int32)) rfl ?_
  refine X1.newarray i52_278 (ty := .char) rfl (hw _ wd_3) (by decide) (cap := 22) (by decide) (by decide) (k' := 2) rfl (n' := 26) rfl (by decide) (by decide) fun T2 h2 a2 c2 X2 E2 z2 g2 V2 Sf2 => ?_
  have V2 : Arv Z h2 a2 c2 .char (22 : Int32) [(.int (0 : Int32)), (.int (0 : Int32)), (.int (0 : Int32)), (.int (0 : Int32)), (.int (0 : Int32)), (.int (0 : Int32)), (.int (0 : Int32)), (.int (0 : Int32)), (.int (0 : Int32)), (.int (0 : Int32)), (.int (0 : Int32)), (.int (0 : Int32)), (.int (0 : Int32)), (.int (0 : Int32)), (.int (0 : Int32)), (.int (0 : Int32)), (.int (0 : Int32)), (.int (0 : Int32)), (.int (0 : Int32)), (.int (0 : Int32)), (.int (0 : Int32)), (.int (0 : Int32))] (.int (0 : Int32)) := V2.pad (pad_rep [] (.int (0 : Int32)) 22)
  refine X2.dup i52_280 rfl ?_
  refine X2.iconst i52_281 (z := (0 : Int32)) rfl ?_
  refine X2.iload_n i52_282 rfl ?_
  refine X2.castore i52_283 V2 ⟨by decide, by decide⟩ (i := 0) rfl (Nat.le_of_ble_eq_true rfl) (y := a) (own_i2cw ha) g2 fun T3 h3 X3 W3 V3 => ?_
  refine X3.dup i52_284 rfl ?_
  refine X3.iconst i52_285 (z := (1 : Int32)) rfl ?_
  refine X3.iload_n i52_286 rfl ?_
  refine X3.castore i52_287 V3 ⟨by decide, by decide⟩ (i := 1) rfl (Nat.le_of_ble_eq_true rfl) (y := b) (own_i2cw hb) g2 fun T4 h4 X4 W4 V4 => ?_
  refine X4.dup i52_288 rfl ?_
  refine X4.iconst i52_289 (z := (2 : Int32)) rfl ?_
  refine X4.iload_n i52_290 rfl ?_
  refine X4.castore i52_291 V4 ⟨by decide, by decide⟩ (i := 2) rfl (Nat.le_of_ble_eq_true rfl) (y := c) (own_i2cw hc) g2 fun T5 h5 X5 W5 V5 => ?_
  refine X5.dup i52_292 rfl ?_
  refine X5.iconst i52_293 (z := (3 : Int32)) rfl ?_
  refine X5.bipush i52_294 (z := (32 : Int32)) rfl ?_
  refine X5.castore i52_296 V5 ⟨by decide, by decide⟩ (i := 3) rfl (Nat.le_of_ble_eq_true rfl) (y := (32 : Int32)) rfl g2 fun T6 h6 X6 W6 V6 => ?_
  refine X6.dup i52_297 rfl ?_
  refine X6.iconst i52_298 (z := (4 : Int32)) rfl ?_
  refine X6.bipush i52_299 (z := (109 : Int32)) rfl ?_
  refine X6.castore i52_301 V6 ⟨by decide, by decide⟩ (i := 4) rfl (Nat.le_of_ble_eq_true rfl) (y := (109 : Int32)) rfl g2 fun T7 h7 X7 W7 V7 => ?_
  refine X7.dup i52_302 rfl ?_
  refine X7.iconst i52_303 (z := (5 : Int32)) rfl ?_
  refine X7.bipush i52_304 (z := (117 : Int32)) rfl ?_
  refine X7.castore i52_306 V7 ⟨by decide, by decide⟩ (i := 5) rfl (Nat.le_of_ble_eq_true rfl) (y := (117 : Int32)) rfl g2 fun T8 h8 X8 W8 V8 => ?_
  refine X8.dup i52_307 rfl ?_
  refine X8.bipush i52_308 (z := (6 : Int32)) rfl ?_
  refine X8.bipush i52_310 (z := (115 : Int32)) rfl ?_
  refine X8.castore i52_312 V8 ⟨by decide, by decide⟩ (i := 6) rfl (Nat.le_of_ble_eq_true rfl) (y := (115 : Int32)) rfl g2 fun T9 h9 X9 W9 V9 => ?_
  have V9 : Arv Z h9 a2 c2 .char (22 : Int32) [(.int a), (.int b), (.int c), (.int (32 : Int32)), (.int (109 : Int32)), (.int (117 : Int32)), (.int (115 : Int32)), (.int (0 : Int32)), (.int (0 : Int32)), (.int (0 : Int32)), (.int (0 : Int32)), (.int (0 : Int32)), (.int (0 : Int32)), (.int (0 : Int32)), (.int (0 : Int32)), (.int (0 : Int32)), (.int (0 : Int32)), (.int (0 : Int32)), (.int (0 : Int32)), (.int (0 : Int32)), (.int (0 : Int32)), (.int (0 : Int32))] (.int (0 : Int32)) := V9
  refine X9.dup i52_313 rfl ?_
  refine X9.bipush i52_314 (z := (7 : Int32)) rfl ?_
  refine X9.bipush i52_316 (z := (116 : Int32)) rfl ?_
  refine X9.castore i52_318 V9 ⟨by decide, by decide⟩ (i := 7) rfl (Nat.le_of_ble_eq_true rfl) (y := (116 : Int32)) rfl g2 fun T10 h10 X10 W10 V10 => ?_
  refine X10.dup i52_319 rfl ?_
  refine X10.bipush i52_320 (z := (8 : Int32)) rfl ?_
  refine X10.bipush i52_322 (z := (32 : Int32)) rfl ?_
  refine X10.castore i52_324 V10 ⟨by decide, by decide⟩ (i := 8) rfl (Nat.le_of_ble_eq_true rfl) (y := (32 : Int32)) rfl g2 fun T11 h11 X11 W11 V11 => ?_
  refine X11.dup i52_325 rfl ?_
  refine X11.bipush i52_326 (z := (9 : Int32)) rfl ?_
  refine X11.bipush i52_328 (z := (98 : Int32)) rfl ?_
  refine X11.castore i52_330 V11 ⟨by decide, by decide⟩ (i := 9) rfl (Nat.le_of_ble_eq_true rfl) (y := (98 : Int32)) rfl g2 fun T12 h12 X12 W12 V12 => ?_
  refine X12.dup i52_331 rfl ?_
  refine X12.bipush i52_332 (z := (10 : Int32)) rfl ?_
  refine X12.bipush i52_334 (z := (101 : Int32)) rfl ?_
  refine X12.castore i52_336 V12 ⟨by decide, by decide⟩ (i := 10) rfl (Nat.le_of_ble_eq_true rfl) (y := (101 : Int32)) rfl g2 fun T13 h13 X13 W13 V13 => ?_
  refine X13.dup i52_337 rfl ?_
  refine X13.bipush i52_338 (z := (11 : Int32)) rfl ?_
  refine X13.bipush i52_340 (z := (32 : Int32)) rfl ?_
  refine X13.castore i52_342 V13 ⟨by decide, by decide⟩ (i := 11) rfl (Nat.le_of_ble_eq_true rfl) (y := (32 : Int32)) rfl g2 fun T14 h14 X14 W14 V14 => ?_
  refine X14.dup i52_343 rfl ?_
  refine X14.bipush i52_344 (z := (12 : Int32)) rfl ?_
  refine X14.bipush i52_346 (z := (97 : Int32)) rfl ?_
  refine X14.castore i52_348 V14 ⟨by decide, by decide⟩ (i := 12) rfl (Nat.le_of_ble_eq_true rfl) (y := (97 : Int32)) rfl g2 fun T15 h15 X15 W15 V15 => ?_
  refine X15.dup i52_349 rfl ?_
  refine X15.bipush i52_350 (z := (13 : Int32)) rfl ?_
  refine X15.bipush i52_352 (z := (98 : Int32)) rfl ?_
  refine X15.castore i52_354 V15 ⟨by decide, by decide⟩ (i := 13) rfl (Nat.le_of_ble_eq_true rfl) (y := (98 : Int32)) rfl g2 fun T16 h16 X16 W16 V16 => ?_
  have V16 : Arv Z h16 a2 c2 .char (22 : Int32) [(.int a), (.int b), (.int c), (.int (32 : Int32)), (.int (109 : Int32)), (.int (117 : Int32)), (.int (115 : Int32)), (.int (116 : Int32)), (.int (32 : Int32)), (.int (98 : Int32)), (.int (101 : Int32)), (.int (32 : Int32)), (.int (97 : Int32)), (.int (98 : Int32)), (.int (0 : Int32)), (.int (0 : Int32)), (.int (0 : Int32)), (.int (0 : Int32)), (.int (0 : Int32)), (.int (0 : Int32)), (.int (0 : Int32)), (.int (0 : Int32))] (.int (0 : Int32)) := V16
  refine X16.dup i52_355 rfl ?_
  refine X16.bipush i52_356 (z := (14 : Int32)) rfl ?_
  refine X16.bipush i52_358 (z := (111 : Int32)) rfl ?_
  refine X16.castore i52_360 V16 ⟨by decide, by decide⟩ (i := 14) rfl (Nat.le_of_ble_eq_true rfl) (y := (111 : Int32)) rfl g2 fun T17 h17 X17 W17 V17 => ?_
  refine X17.dup i52_361 rfl ?_
  refine X17.bipush i52_362 (z := (15 : Int32)) rfl ?_
  refine X17.bipush i52_364 (z := (118 : Int32)) rfl ?_
  refine X17.castore i52_366 V17 ⟨by decide, by decide⟩ (i := 15) rfl (Nat.le_of_ble_eq_true rfl) (y := (118 : Int32)) rfl g2 fun T18 h18 X18 W18 V18 => ?_
  refine X18.dup i52_367 rfl ?_
  refine X18.bipush i52_368 (z := (16 : Int32)) rfl ?_
  refine X18.bipush i52_370 (z := (101 : Int32)) rfl ?_
  refine X18.castore i52_372 V18 ⟨by decide, by decide⟩ (i := 16) rfl (Nat.le_of_ble_eq_true rfl) (y := (101 : Int32)) rfl g2 fun T19 h19 X19 W19 V19 => ?_
  refine X19.dup i52_373 rfl ?_
  refine X19.bipush i52_374 (z := (17 : Int32)) rfl ?_
  refine X19.bipush i52_376 (z := (32 : Int32)) rfl ?_
  refine X19.castore i52_378 V19 ⟨by decide, by decide⟩ (i := 17) rfl (Nat.le_of_ble_eq_true rfl) (y := (32 : Int32)) rfl g2 fun T20 h20 X20 W20 V20 => ?_
  refine X20.dup i52_379 rfl ?_
  refine X20.bipush i52_380 (z := (18 : Int32)) rfl ?_
  refine X20.bipush i52_382 (z := (122 : Int32)) rfl ?_
  refine X20.castore i52_384 V20 ⟨by decide, by decide⟩ (i := 18) rfl (Nat.le_of_ble_eq_true rfl) (y := (122 : Int32)) rfl g2 fun T21 h21 X21 W21 V21 => ?_
  refine X21.dup i52_385 rfl ?_
  refine X21.bipush i52_386 (z := (19 : Int32)) rfl ?_
  refine X21.bipush i52_388 (z := (101 : Int32)) rfl ?_
  refine X21.castore i52_390 V21 ⟨by decide, by decide⟩ (i := 19) rfl (Nat.le_of_ble_eq_true rfl) (y := (101 : Int32)) rfl g2 fun T22 h22 X22 W22 V22 => ?_
  refine X22.dup i52_391 rfl ?_
  refine X22.bipush i52_392 (z := (20 : Int32)) rfl ?_
  refine X22.bipush i52_394 (z := (114 : Int32)) rfl ?_
  refine X22.castore i52_396 V22 ⟨by decide, by decide⟩ (i := 20) rfl (Nat.le_of_ble_eq_true rfl) (y := (114 : Int32)) rfl g2 fun T23 h23 X23 W23 V23 => ?_
  have V23 : Arv Z h23 a2 c2 .char (22 : Int32) [(.int a), (.int b), (.int c), (.int (32 : Int32)), (.int (109 : Int32)), (.int (117 : Int32)), (.int (115 : Int32)), (.int (116 : Int32)), (.int (32 : Int32)), (.int (98 : Int32)), (.int (101 : Int32)), (.int (32 : Int32)), (.int (97 : Int32)), (.int (98 : Int32)), (.int (111 : Int32)), (.int (118 : Int32)), (.int (101 : Int32)), (.int (32 : Int32)), (.int (122 : Int32)), (.int (101 : Int32)), (.int (114 : Int32)), (.int (0 : Int32))] (.int (0 : Int32)) := V23
  refine X23.dup i52_397 rfl ?_
  refine X23.bipush i52_398 (z := (21 : Int32)) rfl ?_
  refine X23.bipush i52_400 (z := (111 : Int32)) rfl ?_
  refine X23.castore i52_402 V23 ⟨by decide, by decide⟩ (i := 21) rfl (Nat.le_of_ble_eq_true rfl) (y := (111 : Int32)) rfl g2 fun T24 h24 X24 W24 V24 => ?_
  have E25 := (((((((((((((((((((((((A1.ext E2).wr W3).wr W4).wr W5).wr W6).wr W7).wr W8).wr W9).wr W10).wr W11).wr W12).wr W13).wr W14).wr W15).wr W16).wr W17).wr W18).wr W19).wr W20).wr W21).wr W22).wr W23).wr W24)
  have F26 : Fld Z h1 a1 "java/lang/String" "value" "[B" .null := D1 (Or.inr (hw _ wd_16)) (ty := (.array .byte)) (by decide)
  have F27 := (((((((((((((((((((((((F26.ext E2).other W3 (Or.inl (Nat.ne_of_lt (Nat.lt_of_lt_of_le (A1).lt (Nat.le_of_eq z2))))).other W4 (Or.inl (Nat.ne_of_lt (Nat.lt_of_lt_of_le (A1).lt (Nat.le_of_eq z2))))).other W5 (Or.inl (Nat.ne_of_lt (Nat.lt_of_lt_of_le (A1).lt (Nat.le_of_eq z2))))).other W6 (Or.inl (Nat.ne_of_lt (Nat.lt_of_lt_of_le (A1).lt (Nat.le_of_eq z2))))).other W7 (Or.inl (Nat.ne_of_lt (Nat.lt_of_lt_of_le (A1).lt (Nat.le_of_eq z2))))).other W8 (Or.inl (Nat.ne_of_lt (Nat.lt_of_lt_of_le (A1).lt (Nat.le_of_eq z2))))).other W9 (Or.inl (Nat.ne_of_lt (Nat.lt_of_lt_of_le (A1).lt (Nat.le_of_eq z2))))).other W10 (Or.inl (Nat.ne_of_lt (Nat.lt_of_lt_of_le (A1).lt (Nat.le_of_eq z2))))).other W11 (Or.inl (Nat.ne_of_lt (Nat.lt_of_lt_of_le (A1).lt (Nat.le_of_eq z2))))).other W12 (Or.inl (Nat.ne_of_lt (Nat.lt_of_lt_of_le (A1).lt (Nat.le_of_eq z2))))).other W13 (Or.inl (Nat.ne_of_lt (Nat.lt_of_lt_of_le (A1).lt (Nat.le_of_eq z2))))).other W14 (Or.inl (Nat.ne_of_lt (Nat.lt_of_lt_of_le (A1).lt (Nat.le_of_eq z2))))).other W15 (Or.inl (Nat.ne_of_lt (Nat.lt_of_lt_of_le (A1).lt (Nat.le_of_eq z2))))).other W16 (Or.inl (Nat.ne_of_lt (Nat.lt_of_lt_of_le (A1).lt (Nat.le_of_eq z2))))).other W17 (Or.inl (Nat.ne_of_lt (Nat.lt_of_lt_of_le (A1).lt (Nat.le_of_eq z2))))).other W18 (Or.inl (Nat.ne_of_lt (Nat.lt_of_lt_of_le (A1).lt (Nat.le_of_eq z2))))).other W19 (Or.inl (Nat.ne_of_lt (Nat.lt_of_lt_of_le (A1).lt (Nat.le_of_eq z2))))).other W20 (Or.inl (Nat.ne_of_lt (Nat.lt_of_lt_of_le (A1).lt (Nat.le_of_eq z2))))).other W21 (Or.inl (Nat.ne_of_lt (Nat.lt_of_lt_of_le (A1).lt (Nat.le_of_eq z2))))).other W22 (Or.inl (Nat.ne_of_lt (Nat.lt_of_lt_of_le (A1).lt (Nat.le_of_eq z2))))).other W23 (Or.inl (Nat.ne_of_lt (Nat.lt_of_lt_of_le (A1).lt (Nat.le_of_eq z2))))).other W24 (Or.inl (Nat.ne_of_lt (Nat.lt_of_lt_of_le (A1).lt (Nat.le_of_eq z2)))))
  have F28 : Fld Z h1 a1 "java/lang/String" "coder" "B" (.int (0 : Int32)) := D1 (Or.inr (hw _ wd_17)) (ty := .byte) (by decide)
  have F29 := (((((((((((((((((((((((F28.ext E2).other W3 (Or.inl (Nat.ne_of_lt (Nat.lt_of_lt_of_le (A1).lt (Nat.le_of_eq z2))))).other W4 (Or.inl (Nat.ne_of_lt (Nat.lt_of_lt_of_le (A1).lt (Nat.le_of_eq z2))))).other W5 (Or.inl (Nat.ne_of_lt (Nat.lt_of_lt_of_le (A1).lt (Nat.le_of_eq z2))))).other W6 (Or.inl (Nat.ne_of_lt (Nat.lt_of_lt_of_le (A1).lt (Nat.le_of_eq z2))))).other W7 (Or.inl (Nat.ne_of_lt (Nat.lt_of_lt_of_le (A1).lt (Nat.le_of_eq z2))))).other W8 (Or.inl (Nat.ne_of_lt (Nat.lt_of_lt_of_le (A1).lt (Nat.le_of_eq z2))))).other W9 (Or.inl (Nat.ne_of_lt (Nat.lt_of_lt_of_le (A1).lt (Nat.le_of_eq z2))))).other W10 (Or.inl (Nat.ne_of_lt (Nat.lt_of_lt_of_le (A1).lt (Nat.le_of_eq z2))))).other W11 (Or.inl (Nat.ne_of_lt (Nat.lt_of_lt_of_le (A1).lt (Nat.le_of_eq z2))))).other W12 (Or.inl (Nat.ne_of_lt (Nat.lt_of_lt_of_le (A1).lt (Nat.le_of_eq z2))))).other W13 (Or.inl (Nat.ne_of_lt (Nat.lt_of_lt_of_le (A1).lt (Nat.le_of_eq z2))))).other W14 (Or.inl (Nat.ne_of_lt (Nat.lt_of_lt_of_le (A1).lt (Nat.le_of_eq z2))))).other W15 (Or.inl (Nat.ne_of_lt (Nat.lt_of_lt_of_le (A1).lt (Nat.le_of_eq z2))))).other W16 (Or.inl (Nat.ne_of_lt (Nat.lt_of_lt_of_le (A1).lt (Nat.le_of_eq z2))))).other W17 (Or.inl (Nat.ne_of_lt (Nat.lt_of_lt_of_le (A1).lt (Nat.le_of_eq z2))))).other W18 (Or.inl (Nat.ne_of_lt (Nat.lt_of_lt_of_le (A1).lt (Nat.le_of_eq z2))))).other W19 (Or.inl (Nat.ne_of_lt (Nat.lt_of_lt_of_le (A1).lt (Nat.le_of_eq z2))))).other W20 (Or.inl (Nat.ne_of_lt (Nat.lt_of_lt_of_le (A1).lt (Nat.le_of_eq z2))))).other W21 (Or.inl (Nat.ne_of_lt (Nat.lt_of_lt_of_le (A1).lt (Nat.le_of_eq z2))))).other W22 (Or.inl (Nat.ne_of_lt (Nat.lt_of_lt_of_le (A1).lt (Nat.le_of_eq z2))))).other W23 (Or.inl (Nat.ne_of_lt (Nat.lt_of_lt_of_le (A1).lt (Nat.le_of_eq z2))))).other W24 (Or.inl (Nat.ne_of_lt (Nat.lt_of_lt_of_le (A1).lt (Nat.le_of_eq z2)))))
  have Sf30 := ((((((((((((((((((((((((CHr.ext E2 X1.chv)).trans (CHr.wr W3 (Safe.arv X2.zw.alike V2 (by simp)) X2.chv)).trans (CHr.wr W4 (Safe.arv X3.zw.alike V3 (by simp)) X3.chv)).trans (CHr.wr W5 (Safe.arv X4.zw.alike V4 (by simp)) X4.chv)).trans (CHr.wr W6 (Safe.arv X5.zw.alike V5 (by simp)) X5.chv)).trans (CHr.wr W7 (Safe.arv X6.zw.alike V6 (by simp)) X6.chv)).trans (CHr.wr W8 (Safe.arv X7.zw.alike V7 (by simp)) X7.chv)).trans (CHr.wr W9 (Safe.arv X8.zw.alike V8 (by simp)) X8.chv)).trans (CHr.wr W10 (Safe.arv X9.zw.alike V9 (by simp)) X9.chv)).trans (CHr.wr W11 (Safe.arv X10.zw.alike V10 (by simp)) X10.chv)).trans (CHr.wr W12 (Safe.arv X11.zw.alike V11 (by simp)) X11.chv)).trans (CHr.wr W13 (Safe.arv X12.zw.alike V12 (by simp)) X12.chv)).trans (CHr.wr W14 (Safe.arv X13.zw.alike V13 (by simp)) X13.chv)).trans (CHr.wr W15 (Safe.arv X14.zw.alike V14 (by simp)) X14.chv)).trans (CHr.wr W16 (Safe.arv X15.zw.alike V15 (by simp)) X15.chv)).trans (CHr.wr W17 (Safe.arv X16.zw.alike V16 (by simp)) X16.chv)).trans (CHr.wr W18 (Safe.arv X17.zw.alike V17 (by simp)) X17.chv)).trans (CHr.wr W19 (Safe.arv X18.zw.alike V18 (by simp)) X18.chv)).trans (CHr.wr W20 (Safe.arv X19.zw.alike V19 (by simp)) X19.chv)).trans (CHr.wr W21 (Safe.arv X20.zw.alike V20 (by simp)) X20.chv)).trans (CHr.wr W22 (Safe.arv X21.zw.alike V21 (by simp)) X21.chv)).trans (CHr.wr W23 (Safe.arv X22.zw.alike V22 (by simp)) X22.chv)).trans (CHr.wr W24 (Safe.arv X23.zw.alike V23 (by simp)) X23.chv)).safe (A1).lt Sf1
  rcases hd with ⟨la, lb, lc⟩ | ⟨iw, hwi⟩
  · skip
    have hp31 : ∀ c9 ∈ ([a, b, c, (32 : Int32), (109 : Int32), (117 : Int32), (115 : Int32), (116 : Int32), (32 : Int32), (98 : Int32), (101 : Int32), (32 : Int32), (97 : Int32), (98 : Int32), (111 : Int32), (118 : Int32), (101 : Int32), (32 : Int32), (122 : Int32), (101 : Int32), (114 : Int32), (111 : Int32)] : List Int32), ¬ c9 < 0 ∧ ¬ (255 : Int32) < c9 := (own_allS la (own_allS lb (own_allS lc (own_allS ⟨by decide, by decide⟩ (own_allS ⟨by decide, by decide⟩ (own_allS ⟨by decide, by decide⟩ (own_allS ⟨by decide, by decide⟩ (own_allS ⟨by decide, by decide⟩ (own_allS ⟨by decide, by decide⟩ (own_allS ⟨by decide, by decide⟩ (own_allS ⟨by decide, by decide⟩ (own_allS ⟨by decide, by decide⟩ (own_allS ⟨by decide, by decide⟩ (own_allS ⟨by decide, by decide⟩ (own_allS ⟨by decide, by decide⟩ (own_allS ⟨by decide, by decide⟩ (own_allS ⟨by decide, by decide⟩ (own_allS ⟨by decide, by decide⟩ (own_allS ⟨by decide, by decide⟩ (own_allS ⟨by decide, by decide⟩ (own_allS ⟨by decide, by decide⟩ (own_allS ⟨by decide, by decide⟩ own_all0))))))))))))))))))))))
    refine own_strInit X24 hw (cs := [a, b, c, (32 : Int32), (109 : Int32), (117 : Int32), (115 : Int32), (116 : Int32), (32 : Int32), (98 : Int32), (101 : Int32), (32 : Int32), (97 : Int32), (98 : Int32), (111 : Int32), (118 : Int32), (101 : Int32), (32 : Int32), (122 : Int32), (101 : Int32), (114 : Int32), (111 : Int32)]) (c0 := a2) i52_403 (hw _ wd_4) g1 E25 F27 F29 V24 rfl (Nat.le_of_ble_eq_true rfl) (Nat.le_of_ble_eq_true rfl) hp31 hcs hcz Sf30 rfl (W := 1) rfl (by decide) (by decide) (k' := 3) rfl (n' := 48) rfl (by decide) (by decide) fun T31 h31 t31 b31 X31 K31 y31 S31 => ?_
    have Fv32 : Fld Z h31 a1 "java/lang/String" "value" "[B" (.ref t31) := S31.2.1
    have Fc32 : Fld Z h31 a1 "java/lang/String" "coder" "B" (.int (0 : Int32)) := S31.2.2.1
    have Vt32 : Arv Z h31 t31 b31 .byte (Int32.ofNat [a, b, c, (32 : Int32), (109 : Int32), (117 : Int32), (115 : Int32), (116 : Int32), (32 : Int32), (98 : Int32), (101 : Int32), (32 : Int32), (97 : Int32), (98 : Int32), (111 : Int32), (118 : Int32), (101 : Int32), (32 : Int32), (122 : Int32), (101 : Int32), (114 : Int32), (111 : Int32)].length) ([a, b, c, (32 : Int32), (109 : Int32), (117 : Int32), (115 : Int32), (116 : Int32), (32 : Int32), (98 : Int32), (101 : Int32), (32 : Int32), (97 : Int32), (98 : Int32), (111 : Int32), (118 : Int32), (101 : Int32), (32 : Int32), (122 : Int32), (101 : Int32), (114 : Int32), (111 : Int32)].map own_f) (.int (0 : Int32)) := S31.2.2.2.1
    exact X31.areturn i52_406 rfl rfl rfl (by decide) (by decide) (fun sf hsf => ⟨a1, t31, b31, (0 : Int32), (Int32.ofNat [a, b, c, (32 : Int32), (109 : Int32), (117 : Int32), (115 : Int32), (116 : Int32), (32 : Int32), (98 : Int32), (101 : Int32), (32 : Int32), (97 : Int32), (98 : Int32), (111 : Int32), (118 : Int32), (101 : Int32), (32 : Int32), (122 : Int32), (101 : Int32), (114 : Int32), (111 : Int32)].length), ([a, b, c, (32 : Int32), (109 : Int32), (117 : Int32), (115 : Int32), (116 : Int32), (32 : Int32), (98 : Int32), (101 : Int32), (32 : Int32), (97 : Int32), (98 : Int32), (111 : Int32), (118 : Int32), (101 : Int32), (32 : Int32), (122 : Int32), (101 : Int32), (114 : Int32), (111 : Int32)].map own_f), rfl, (ext_keep (ext_wr (ext_wr (ext_wr (ext_wr (ext_wr (ext_wr (ext_wr (ext_wr (ext_wr (ext_wr (ext_wr (ext_wr (ext_wr (ext_wr (ext_wr (ext_wr (ext_wr (ext_wr (ext_wr (ext_wr (ext_wr (ext_wr (ext_trans E1 E2) W3 (Nat.le_trans E1.1 (Nat.le_of_eq z2))) W4 (Nat.le_trans E1.1 (Nat.le_of_eq z2))) W5 (Nat.le_trans E1.1 (Nat.le_of_eq z2))) W6 (Nat.le_trans E1.1 (Nat.le_of_eq z2))) W7 (Nat.le_trans E1.1 (Nat.le_of_eq z2))) W8 (Nat.le_trans E1.1 (Nat.le_of_eq z2))) W9 (Nat.le_trans E1.1 (Nat.le_of_eq z2))) W10 (Nat.le_trans E1.1 (Nat.le_of_eq z2))) W11 (Nat.le_trans E1.1 (Nat.le_of_eq z2))) W12 (Nat.le_trans E1.1 (Nat.le_of_eq z2))) W13 (Nat.le_trans E1.1 (Nat.le_of_eq z2))) W14 (Nat.le_trans E1.1 (Nat.le_of_eq z2))) W15 (Nat.le_trans E1.1 (Nat.le_of_eq z2))) W16 (Nat.le_trans E1.1 (Nat.le_of_eq z2))) W17 (Nat.le_trans E1.1 (Nat.le_of_eq z2))) W18 (Nat.le_trans E1.1 (Nat.le_of_eq z2))) W19 (Nat.le_trans E1.1 (Nat.le_of_eq z2))) W20 (Nat.le_trans E1.1 (Nat.le_of_eq z2))) W21 (Nat.le_trans E1.1 (Nat.le_of_eq z2))) W22 (Nat.le_trans E1.1 (Nat.le_of_eq z2))) W23 (Nat.le_trans E1.1 (Nat.le_of_eq z2))) W24 (Nat.le_trans E1.1 (Nat.le_of_eq z2))) K31 (allS (Nat.le_of_eq z1) all0)), (Nat.le_of_eq z1), S31.1, Fv32, Fc32, Vt32, Or.inl ⟨rfl, rfl, rfl, fun c9 hc9 => (S31.2.2.2.2 c9 hc9).2⟩⟩)
  · skip
    refine X24.callI hl (argsL := [(.ref a2)]) (a := a1) i52_403 (c_w1 hX X24.old a1 a2 c2 (.int (0 : Int32)) [a, b, c, (32 : Int32), (109 : Int32), (117 : Int32), (115 : Int32), (116 : Int32), (32 : Int32), (98 : Int32), (101 : Int32), (32 : Int32), (97 : Int32), (98 : Int32), (111 : Int32), (118 : Int32), (101 : Int32), (32 : Int32), (122 : Int32), (101 : Int32), (114 : Int32), (111 : Int32)] iw E25 g1 F27 F29 V24 (Nat.le_of_ble_eq_true rfl) (hwi [(32 : Int32), (109 : Int32), (117 : Int32), (115 : Int32), (116 : Int32), (32 : Int32), (98 : Int32), (101 : Int32), (32 : Int32), (97 : Int32), (98 : Int32), (111 : Int32), (118 : Int32), (101 : Int32), (32 : Int32), (122 : Int32), (101 : Int32), (114 : Int32), (111 : Int32)]) (own_chrS ha (own_chrS hb (own_chrS hc own_hct)))) (hw _ wd_4) (hw _ wd_5) (hw _ wd_2) (hw _ wd_6) rfl (by decide) (sf_cons ⟨Sf30, (E25).lt⟩ sf_nil) pd34 rfl rfl rfl (W := 1) rfl (by decide) (by decide) (k' := 4) rfl (n' := 92) rfl (by decide) (by decide) fun vm33 T33 h33 v33 X33 r33 Q33 => ?_
    obtain ⟨t_33, kt_33, rfl, q33_0, q33_1, q33_2, q33_3, q33_4, q33_5⟩ := Q33
    have g34 := Nat.le_trans X24.n0le q33_5
    show Go _ _ _ _ _ _ _ _ _ _ [(.ref a1)]
    exact X33.areturn i52_406 rfl rfl rfl (by decide) (by decide) (fun sf hsf => ⟨a1, t_33, kt_33, (1 : Int32), (Int32.ofNat (2 * [a, b, c, (32 : Int32), (109 : Int32), (117 : Int32), (115 : Int32), (116 : Int32), (32 : Int32), (98 : Int32), (101 : Int32), (32 : Int32), (97 : Int32), (98 : Int32), (111 : Int32), (118 : Int32), (101 : Int32), (32 : Int32), (122 : Int32), (101 : Int32), (114 : Int32), (111 : Int32)].length)), (own_wb [a, b, c, (32 : Int32), (109 : Int32), (117 : Int32), (115 : Int32), (116 : Int32), (32 : Int32), (98 : Int32), (101 : Int32), (32 : Int32), (97 : Int32), (98 : Int32), (111 : Int32), (118 : Int32), (101 : Int32), (32 : Int32), (122 : Int32), (101 : Int32), (114 : Int32), (111 : Int32)]), rfl, (ext_keep (ext_wr (ext_wr (ext_wr (ext_wr (ext_wr (ext_wr (ext_wr (ext_wr (ext_wr (ext_wr (ext_wr (ext_wr (ext_wr (ext_wr (ext_wr (ext_wr (ext_wr (ext_wr (ext_wr (ext_wr (ext_wr (ext_wr (ext_trans E1 E2) W3 (Nat.le_trans E1.1 (Nat.le_of_eq z2))) W4 (Nat.le_trans E1.1 (Nat.le_of_eq z2))) W5 (Nat.le_trans E1.1 (Nat.le_of_eq z2))) W6 (Nat.le_trans E1.1 (Nat.le_of_eq z2))) W7 (Nat.le_trans E1.1 (Nat.le_of_eq z2))) W8 (Nat.le_trans E1.1 (Nat.le_of_eq z2))) W9 (Nat.le_trans E1.1 (Nat.le_of_eq z2))) W10 (Nat.le_trans E1.1 (Nat.le_of_eq z2))) W11 (Nat.le_trans E1.1 (Nat.le_of_eq z2))) W12 (Nat.le_trans E1.1 (Nat.le_of_eq z2))) W13 (Nat.le_trans E1.1 (Nat.le_of_eq z2))) W14 (Nat.le_trans E1.1 (Nat.le_of_eq z2))) W15 (Nat.le_trans E1.1 (Nat.le_of_eq z2))) W16 (Nat.le_trans E1.1 (Nat.le_of_eq z2))) W17 (Nat.le_trans E1.1 (Nat.le_of_eq z2))) W18 (Nat.le_trans E1.1 (Nat.le_of_eq z2))) W19 (Nat.le_trans E1.1 (Nat.le_of_eq z2))) W20 (Nat.le_trans E1.1 (Nat.le_of_eq z2))) W21 (Nat.le_trans E1.1 (Nat.le_of_eq z2))) W22 (Nat.le_trans E1.1 (Nat.le_of_eq z2))) W23 (Nat.le_trans E1.1 (Nat.le_of_eq z2))) W24 (Nat.le_trans E1.1 (Nat.le_of_eq z2))) q33_0 (allS (Nat.le_of_eq z1) all0)), (Nat.le_of_eq z1), q33_1, q33_2, q33_3, q33_4, Or.inr ⟨rfl, rfl, rfl, own_firstE (hwi [(32 : Int32), (109 : Int32), (117 : Int32), (115 : Int32), (116 : Int32), (32 : Int32), (98 : Int32), (101 : Int32), (32 : Int32), (97 : Int32), (98 : Int32), (111 : Int32), (118 : Int32), (101 : Int32), (32 : Int32), (122 : Int32), (101 : Int32), (114 : Int32), (111 : Int32)])⟩⟩)
theorem c_gm (hX : own_Ctx l Z a0 zc fm us ss) (hO : Old Z n0 h) (x : Addr) (m : Addr) (F_m : Fld Z h x "java/lang/Throwable" "detailMessage" "Ljava/lang/String;" (.ref m)) :
    Con [] false l Z own_EL n0 [] (⟨"java/lang/Throwable", "getMessage", "()Ljava/lang/String;"⟩ : MethodName) B53 1 (some (.object "java/lang/String")) ({ frames := 0, cells := 0, slots := 0, locals := 0 } : Room) #[(.ref x)] h (fun v h' sf => v = some (.ref m) ∧ h = h') := by
  obtain ⟨hw, hEL, hcs, hcz, hfm, hfr, hst, hKn, hus, hss, had, hhi, hlo⟩ := id hX
  refine Con.intro (Ls := #[.val (.ref x)]) pn53 hEL hO (fun m => rfl) fun C vm T hl X hs => ?_
  have X : On C ({ frames := 0, cells := 0, slots := 0, locals := 0 } : Room) "java/lang/Throwable" B53 1 (some (.object "java/lang/String")) "getMessage" false Z a0 own_EL n0 vm T h 0 0 := X
  refine X.aload_n i53_0 rfl rfl ?_
  refine X.getfield i53_1 (hw _ wd_215) Via.refl F_m fun T1 X1 => ?_
  exact X1.areturn i53_4 rfl rfl rfl (by decide) (by decide) (fun sf hsf => ⟨rfl, rfl⟩)
theorem ef_law (m : MethodId) (p0 : Int32) (p1 : Int32) (p2 : Int32) (p3 : Int32) : entryFrame m #[(.int p0), (.int p1), (.int p2), (.int p3)] maxLocals = mkF m 0 #[.val (.int p0), .val (.int p1), .val (.int p2), .val (.int p3), .unset, .unset, .unset, .unset, .unset, .unset, .unset] [] := by first | (simp [entryFrame, mkF, argsToLocals, Value.category, maxLocals]; done) | rfl
set_option maxRecDepth 65536 in
set_option maxHeartbeats 40000000 in
theorem own_law (hX : own_Ctx l Z a0 zc fm us ss) (p0 : Int32) (p1 : Int32) (p2 : Int32) (p3 : Int32)  :
    ConK tables_1 false l Z own_EL Z.heap.size [] x code maxLocals ret room_1 #[(.int p0), (.int p1), (.int p2), (.int p3)] Z.heap (fun v h' sf => v = some (.int (1 : Int32))) := by
  have hml : maxLocals = 11 := rfl
  obtain ⟨hw, hEL, hcs, hcz, hfm, hfr, hst, hKn, hus, hss, had, hhi, hlo⟩ := id hX
  refine Con.introK pn54 hEL (Old.start Z) (fun m => ef_law m p0 p1 p2 p3) fun C vm T hl X hs hT0 hFK => ?_
  have X : On C room_1 "com/example/yusen/yusen/figures/ChecksNotPositivePinLaw" code 11 (some .boolean) "law" false Z a0 own_EL Z.heap.size vm T Z.heap 0 0 := X
  obtain ⟨ca, eca⟩ : ∃ z, (p1.toUInt32.toUInt16.toUInt32.toInt32) = z := ⟨_, rfl⟩
  have hca := own_chrOf p1
  rw [eca] at hca
  obtain ⟨cb, ecb⟩ : ∃ z, (p2.toUInt32.toUInt16.toUInt32.toInt32) = z := ⟨_, rfl⟩
  have hcb := own_chrOf p2
  rw [ecb] at hcb
  obtain ⟨cc, ecc⟩ : ∃ z, (p3.toUInt32.toUInt16.toUInt32.toInt32) = z := ⟨_, rfl⟩
  have hcc := own_chrOf p3
  rw [ecc] at hcc
  rcases own_and3 p0 with hk | hk | hk | hk
  · skip
    refine X.iload_n i54_0 rfl ?_
    refine X.iconst i54_1 (z := (3 : Int32)) rfl ?_
    refine X.iand i54_2 (z := (0 : Int32)) hk ?_
    refine X.istore i54_3 (Ls' := #[.val (.int p0), .val (.int p1), .val (.int p2), .val (.int p3), .val (.int (0 : Int32)), .unset, .unset, .unset, .unset, .unset, .unset]) rfl ?_
    refine X.iload_n i54_5 rfl ?_
    refine X.i2c i54_6 (z := ca) eca ?_
    refine X.istore i54_7 (Ls' := #[.val (.int p0), .val (.int p1), .val (.int p2), .val (.int p3), .val (.int (0 : Int32)), .val (.int ca), .unset, .unset, .unset, .unset, .unset]) rfl ?_
    refine X.iload_n i54_9 rfl ?_
    refine X.i2c i54_10 (z := cb) ecb ?_
    refine X.istore i54_11 (Ls' := #[.val (.int p0), .val (.int p1), .val (.int p2), .val (.int p3), .val (.int (0 : Int32)), .val (.int ca), .val (.int cb), .unset, .unset, .unset, .unset]) rfl ?_
    refine X.iload_n i54_13 rfl ?_
    refine X.i2c i54_14 (z := cc) ecc ?_
    refine X.istore i54_15 (Ls' := #[.val (.int p0), .val (.int p1), .val (.int p2), .val (.int p3), .val (.int (0 : Int32)), .val (.int ca), .val (.int cb), .val (.int cc), .unset, .unset, .unset]) rfl ?_
    refine X.iload i54_17 rfl ?_
    refine X.ifN i54_19 (by decide) ?_
    refine X.new i54_22 (hw _ wd_0) (hw _ wd_1) (hw _ wd_2) (k' := 1) rfl (n' := 4) rfl (by decide) (by decide) fun T1 h1 a1 X1 E1 z1 g1 A1 D1 U1 Sf1 => ?_
    refine X1.dup i54_25 rfl ?_
    refine X1.iconst i54_26 (z := (0 : Int32)) rfl ?_
    refine X1.newarray i54_27 (ty := .char) rfl (hw _ wd_3) (by decide) (cap := 0) (by decide) (by decide) (k' := 2) rfl (n' := 4) rfl (by decide) (by decide) fun T2 h2 a2 c2 X2 E2 z2 g2 V2 Sf2 => ?_
    have V2 : Arv Z h2 a2 c2 .char (0 : Int32) [] (.int (0 : Int32)) := V2.pad (pad_rep [] (.int (0 : Int32)) 0)
    have E3 := (A1.ext E2)
    have F4 : Fld Z h1 a1 "java/lang/String" "value" "[B" .null := D1 (Or.inr (hw _ wd_16)) (ty := (.array .byte)) (by decide)
    have F5 := (F4.ext E2)
    have F6 : Fld Z h1 a1 "java/lang/String" "coder" "B" (.int (0 : Int32)) := D1 (Or.inr (hw _ wd_17)) (ty := .byte) (by decide)
    have F7 := (F6.ext E2)
    have Sf9 := ((CHr.ext E2 X1.chv)).safe (A1).lt Sf1
    refine X2.callI hl (argsL := [(.ref a2)]) (a := a1) i54_29 (c_se1 hX X2.old a1 a2 c2 (.int (0 : Int32)) E3 g1 F5 F7 V2) (hw _ wd_4) (hw _ wd_5) (hw _ wd_2) (hw _ wd_6) rfl (by decide) (sf_cons ⟨Sf9, (E3).lt⟩ sf_nil) pd34 rfl rfl rfl (W := 1) rfl (by decide) (by decide) (k' := 6) rfl (n' := 12) rfl (by decide) (by decide) fun vm8 T8 h8 v8 X8 r8 Q8 => ?_
    obtain ⟨t_8, kb_8, rfl, q8_0, q8_1⟩ := Q8
    show Go _ _ _ _ _ _ _ _ _ _ [(.ref a1)]
    refine X8.astore i54_32 rfl (Ls' := #[.val (.int p0), .val (.int p1), .val (.int p2), .val (.int p3), .val (.int (0 : Int32)), .val (.int ca), .val (.int cb), .val (.int cc), .val (.ref a1), .unset, .unset]) rfl ?_
    refine X8.goto i54_34 j34_77 ?_
    refine X8.aload i54_111 rfl rfl ?_
    refine X8.callSK hl hKn hFK (argsL := [(.ref a1)]) i54_113 (c_npL hX X8.old a1 t_8 kb_8 ([] : List Int32) q8_1 (Nat.le_of_ble_eq_true rfl)) (hw _ wd_22) (hw _ wd_23) (hw _ wd_24) (hw _ wd_25) (by decide) sf_nil pd35 rfl rfl rfl (W := 0) rfl (by decide) (by decide) (k' := 15) rfl (n' := 2930) rfl (by decide) (by decide) fun vm10 T10 h10 v10 X10 r10 Q10 => ?_
    obtain ⟨x_10, m_10, tm_10, km_10, rfl, q10_0, q10_1, q10_2, q10_3, q10_4, q10_5, q10_6⟩ := Q10
    have g11 := Nat.le_trans X8.n0le q10_1
    show Go _ _ _ _ _ _ _ _ _ _ [(.ref x_10)]
    refine X10.astore i54_116 rfl (Ls' := #[.val (.int p0), .val (.int p1), .val (.int p2), .val (.int p3), .val (.int (0 : Int32)), .val (.int ca), .val (.int cb), .val (.int cc), .val (.ref a1), .val (.ref x_10), .unset]) rfl ?_
    refine X10.aload i54_118 rfl rfl ?_
    refine X10.nonnullY i54_120 j120_5 ?_
    refine X10.aload i54_125 rfl rfl ?_
    refine X10.callVU hl (argsL := []) (a := x_10) i54_127 (c_gm hX X10.old x_10 m_10 q10_4) q10_2 (hw _ wd_216) (ow := "java/lang/Throwable") (hw _ wd_218) (hw _ wd_217) rfl (hw _ wd_220) (hw _ wd_219) (hw _ wd_177) (hw _ wd_221) (by decide) sf_nil pd33 rfl rfl rfl (W := 0) rfl (by decide) (by decide) (k' := 15) rfl (n' := 2930) rfl (by decide) (by decide) fun vm12 T12 h12 v12 X12 r12 Q12 => ?_
    obtain ⟨rfl, rfl⟩ := Q12
    show Go _ _ _ _ _ _ _ _ _ _ [(.ref m_10)]
    refine X12.astore i54_130 rfl (Ls' := #[.val (.int p0), .val (.int p1), .val (.int p2), .val (.int p3), .val (.int (0 : Int32)), .val (.int ca), .val (.int cb), .val (.int cc), .val (.ref a1), .val (.ref x_10), .val (.ref m_10)]) rfl ?_
    refine X12.aload i54_132 rfl rfl ?_
    refine X12.nonnullY i54_134 j134_5 ?_
    refine X12.aload i54_139 rfl rfl ?_
    refine X12.iload i54_141 rfl ?_
    refine X12.iload i54_143 rfl ?_
    refine X12.iload i54_145 rfl ?_
    refine X12.iload i54_147 rfl ?_
    refine X12.callS hl (argsL := [(.int (0 : Int32)), (.int ca), (.int cb), (.int cc)]) i54_149 (c_e0 hX X12.old ca cb cc ) (hw _ wd_222) (hw _ wd_223) (hw _ wd_224) (hw _ wd_225) (by decide) sf_nil pd36 rfl rfl rfl (W := 1) rfl (by decide) (by decide) (k' := 17) rfl (n' := 3010) rfl (by decide) (by decide) fun vm13 T13 h13 v13 X13 r13 Q13 => ?_
    obtain ⟨s_13, t_13, kb_13, rfl, q13_0, q13_1⟩ := Q13
    show Go _ _ _ _ _ _ _ _ _ _ [(.ref s_13), (.ref m_10)]
    have S14 := (q10_6.ext q13_0)
    refine own_eqA X13 hw (cs := (([] : List Int32) ++ [(32 : Int32), (109 : Int32), (117 : Int32), (115 : Int32), (116 : Int32), (32 : Int32), (98 : Int32), (101 : Int32), (32 : Int32), (97 : Int32), (98 : Int32), (111 : Int32), (118 : Int32), (101 : Int32), (32 : Int32), (122 : Int32), (101 : Int32), (114 : Int32), (111 : Int32)])) (ds := [(32 : Int32), (109 : Int32), (117 : Int32), (115 : Int32), (116 : Int32), (32 : Int32), (98 : Int32), (101 : Int32), (32 : Int32), (97 : Int32), (98 : Int32), (111 : Int32), (118 : Int32), (101 : Int32), (32 : Int32), (122 : Int32), (101 : Int32), (114 : Int32), (111 : Int32)]) i54_152 (hw _ wd_227) (hw _ wd_228) (hw _ wd_230) (hw _ wd_229) (hw _ wd_1) S14.1 S14.2.1 S14.2.2.1 S14.2.2.2.1 (Or.inl ⟨rfl, rfl, rfl, fun c9 hc9 => (S14.2.2.2.2 c9 hc9).2⟩) own_hct (Nat.le_of_ble_eq_true rfl) q13_1.1 q13_1.2.1 q13_1.2.2.1 q13_1.2.2.2.1 (Or.inl ⟨rfl, rfl, rfl, fun c9 hc9 => (q13_1.2.2.2.2 c9 hc9).2⟩) own_hct (Nat.le_of_ble_eq_true rfl) hcs hcz rfl (W := 0) rfl (by decide) (by decide) (by decide) (by decide) fun T15 r15 X15 q15 => ?_
    obtain rfl : r15 = (1 : Int32) := q15.elim (fun g => g.1) (fun g => absurd rfl g.2)
    refine X15.ifN i54_155 (by decide) ?_
    refine X15.aload i54_158 rfl rfl ?_
    have E16 := (q10_2.ext q13_0)
    have U17 := (q10_3.ext q13_0)
    have F18 := (q10_5.ext q13_0)
    refine X15.getCause (y := (⟨"java/lang/IllegalArgumentException", "getCause", "()Ljava/lang/Throwable;"⟩ : MethodName)) i54_160 E16 U17 F18 rfl rfl (hw _ wd_237) (hw _ wd_239) (hw _ wd_238) rfl (hw _ wd_241) (hw _ wd_240) (hw _ wd_242) (hw _ wd_177) (hw _ wd_180) rfl (W := 0) rfl (by decide) (by decide) (by decide) (by decide) fun T19 X19 => ?_
    refine X19.nonnullN i54_163 ?_
    refine X19.iconst i54_166 (z := (1 : Int32)) rfl ?_
    refine X19.goto i54_167 j167_4 ?_
    exact X19.ireturn i54_171 (t := .boolean) rfl (by decide) rfl (by decide) (by decide) (fun sf hsf => rfl)
  · skip
    rcases own_split1 hca with lca | ⟨iw, hwi⟩
    · skip
      refine X.iload_n i54_0 rfl ?_
      refine X.iconst i54_1 (z := (3 : Int32)) rfl ?_
      refine X.iand i54_2 (z := (1 : Int32)) hk ?_
      refine X.istore i54_3 (Ls' := #[.val (.int p0), .val (.int p1), .val (.int p2), .val (.int p3), .val (.int (1 : Int32)), .unset, .unset, .unset, .unset, .unset, .unset]) rfl ?_
      refine X.iload_n i54_5 rfl ?_
      refine X.i2c i54_6 (z := ca) eca ?_
      refine X.istore i54_7 (Ls' := #[.val (.int p0), .val (.int p1), .val (.int p2), .val (.int p3), .val (.int (1 : Int32)), .val (.int ca), .unset, .unset, .unset, .unset, .unset]) rfl ?_
      refine X.iload_n i54_9 rfl ?_
      refine X.i2c i54_10 (z := cb) ecb ?_
      refine X.istore i54_11 (Ls' := #[.val (.int p0), .val (.int p1), .val (.int p2), .val (.int p3), .val (.int (1 : Int32)), .val (.int ca), .val (.int cb), .unset, .unset, .unset, .unset]) rfl ?_
      refine X.iload_n i54_13 rfl ?_
      refine X.i2c i54_14 (z := cc) ecc ?_
      refine X.istore i54_15 (Ls' := #[.val (.int p0), .val (.int p1), .val (.int p2), .val (.int p3), .val (.int (1 : Int32)), .val (.int ca), .val (.int cb), .val (.int cc), .unset, .unset, .unset]) rfl ?_
      refine X.iload i54_17 rfl ?_
      refine X.ifY i54_19 j19_18 (by decide) ?_
      refine X.iload i54_37 rfl ?_
      refine X.iconst i54_39 (z := (1 : Int32)) rfl ?_
      refine X.icN i54_40 (by decide) ?_
      refine X.iload i54_43 rfl ?_
      refine X.callS hl (argsL := [(.int ca)]) i54_45 (c_vof hX X.old ca lca) (hw _ wd_302) (hw _ wd_303) (hw _ wd_2) (hw _ wd_304) (by decide) sf_nil pd37 rfl rfl rfl (W := 0) rfl (by decide) (by decide) (k' := 2) rfl (n' := 5) rfl (by decide) (by decide) fun vm20 T20 h20 v20 X20 r20 Q20 => ?_
      obtain ⟨x_20, t_20, kt_20, rfl, q20_0, q20_1, q20_2⟩ := Q20
      have g21 := Nat.le_trans X.n0le q20_1
      show Go _ _ _ _ _ _ _ _ _ _ [(.ref x_20)]
      refine X20.astore i54_48 rfl (Ls' := #[.val (.int p0), .val (.int p1), .val (.int p2), .val (.int p3), .val (.int (1 : Int32)), .val (.int ca), .val (.int cb), .val (.int cc), .val (.ref x_20), .unset, .unset]) rfl ?_
      refine X20.goto i54_50 j50_61 ?_
      refine X20.aload i54_111 rfl rfl ?_
      refine X20.callSK hl hKn hFK (argsL := [(.ref x_20)]) i54_113 (c_npL hX X20.old x_20 t_20 kt_20 [ca] q20_2 (Nat.le_of_ble_eq_true rfl)) (hw _ wd_22) (hw _ wd_23) (hw _ wd_24) (hw _ wd_25) (by decide) sf_nil pd35 rfl rfl rfl (W := 0) rfl (by decide) (by decide) (k' := 11) rfl (n' := 2923) rfl (by decide) (by decide) fun vm22 T22 h22 v22 X22 r22 Q22 => ?_
      obtain ⟨x_22, m_22, tm_22, km_22, rfl, q22_0, q22_1, q22_2, q22_3, q22_4, q22_5, q22_6⟩ := Q22
      have g23 := Nat.le_trans X20.n0le q22_1
      show Go _ _ _ _ _ _ _ _ _ _ [(.ref x_22)]
      refine X22.astore i54_116 rfl (Ls' := #[.val (.int p0), .val (.int p1), .val (.int p2), .val (.int p3), .val (.int (1 : Int32)), .val (.int ca), .val (.int cb), .val (.int cc), .val (.ref x_20), .val (.ref x_22), .unset]) rfl ?_
      refine X22.aload i54_118 rfl rfl ?_
      refine X22.nonnullY i54_120 j120_5 ?_
      refine X22.aload i54_125 rfl rfl ?_
      refine X22.callVU hl (argsL := []) (a := x_22) i54_127 (c_gm hX X22.old x_22 m_22 q22_4) q22_2 (hw _ wd_216) (ow := "java/lang/Throwable") (hw _ wd_218) (hw _ wd_217) rfl (hw _ wd_220) (hw _ wd_219) (hw _ wd_177) (hw _ wd_221) (by decide) sf_nil pd33 rfl rfl rfl (W := 0) rfl (by decide) (by decide) (k' := 11) rfl (n' := 2923) rfl (by decide) (by decide) fun vm24 T24 h24 v24 X24 r24 Q24 => ?_
      obtain ⟨rfl, rfl⟩ := Q24
      show Go _ _ _ _ _ _ _ _ _ _ [(.ref m_22)]
      refine X24.astore i54_130 rfl (Ls' := #[.val (.int p0), .val (.int p1), .val (.int p2), .val (.int p3), .val (.int (1 : Int32)), .val (.int ca), .val (.int cb), .val (.int cc), .val (.ref x_20), .val (.ref x_22), .val (.ref m_22)]) rfl ?_
      refine X24.aload i54_132 rfl rfl ?_
      refine X24.nonnullY i54_134 j134_5 ?_
      refine X24.aload i54_139 rfl rfl ?_
      refine X24.iload i54_141 rfl ?_
      refine X24.iload i54_143 rfl ?_
      refine X24.iload i54_145 rfl ?_
      refine X24.iload i54_147 rfl ?_
      refine X24.callS hl (argsL := [(.int (1 : Int32)), (.int ca), (.int cb), (.int cc)]) i54_149 (c_e1 hX X24.old ca cb cc hca (Or.inl lca)) (hw _ wd_222) (hw _ wd_223) (hw _ wd_224) (hw _ wd_225) (by decide) sf_nil pd36 rfl rfl rfl (W := 1) rfl (by decide) (by decide) (k' := 15) rfl (n' := 3013) rfl (by decide) (by decide) fun vm25 T25 h25 v25 X25 r25 Q25 => ?_
      obtain ⟨s_25, t_25, kb_25, cd_25, N_25, vs_25, rfl, q25_0, q25_1, q25_2, q25_3, q25_4, q25_5, q25_6⟩ := Q25
      have g26 := Nat.le_trans X24.n0le q25_1
      show Go _ _ _ _ _ _ _ _ _ _ [(.ref s_25), (.ref m_22)]
      have S27 := (q22_6.ext q25_0)
      refine own_eqA X25 hw (cs := ([ca] ++ [(32 : Int32), (109 : Int32), (117 : Int32), (115 : Int32), (116 : Int32), (32 : Int32), (98 : Int32), (101 : Int32), (32 : Int32), (97 : Int32), (98 : Int32), (111 : Int32), (118 : Int32), (101 : Int32), (32 : Int32), (122 : Int32), (101 : Int32), (114 : Int32), (111 : Int32)])) (ds := [ca, (32 : Int32), (109 : Int32), (117 : Int32), (115 : Int32), (116 : Int32), (32 : Int32), (98 : Int32), (101 : Int32), (32 : Int32), (97 : Int32), (98 : Int32), (111 : Int32), (118 : Int32), (101 : Int32), (32 : Int32), (122 : Int32), (101 : Int32), (114 : Int32), (111 : Int32)]) i54_152 (hw _ wd_227) (hw _ wd_228) (hw _ wd_230) (hw _ wd_229) (hw _ wd_1) S27.1 S27.2.1 S27.2.2.1 S27.2.2.2.1 (Or.inl ⟨rfl, rfl, rfl, fun c9 hc9 => (S27.2.2.2.2 c9 hc9).2⟩) (own_chrS hca own_hct) (Nat.le_of_ble_eq_true rfl) q25_2 q25_3 q25_4 q25_5 q25_6 (own_chrS hca own_hct) (Nat.le_of_ble_eq_true rfl) hcs hcz rfl (W := 0) rfl (by decide) (by decide) (by decide) (by decide) fun T28 r28 X28 q28 => ?_
      obtain rfl : r28 = (1 : Int32) := q28.elim (fun g => g.1) (fun g => absurd rfl g.2)
      refine X28.ifN i54_155 (by decide) ?_
      refine X28.aload i54_158 rfl rfl ?_
      have E29 := (q22_2.ext q25_0)
      have U30 := (q22_3.ext q25_0)
      have F31 := (q22_5.ext q25_0)
      refine X28.getCause (y := (⟨"java/lang/IllegalArgumentException", "getCause", "()Ljava/lang/Throwable;"⟩ : MethodName)) i54_160 E29 U30 F31 rfl rfl (hw _ wd_237) (hw _ wd_239) (hw _ wd_238) rfl (hw _ wd_241) (hw _ wd_240) (hw _ wd_242) (hw _ wd_177) (hw _ wd_180) rfl (W := 0) rfl (by decide) (by decide) (by decide) (by decide) fun T32 X32 => ?_
      refine X32.nonnullN i54_163 ?_
      refine X32.iconst i54_166 (z := (1 : Int32)) rfl ?_
      refine X32.goto i54_167 j167_4 ?_
      exact X32.ireturn i54_171 (t := .boolean) rfl (by decide) rfl (by decide) (by decide) (fun sf hsf => rfl)
    · skip
      refine X.iload_n i54_0 rfl ?_
      refine X.iconst i54_1 (z := (3 : Int32)) rfl ?_
      refine X.iand i54_2 (z := (1 : Int32)) hk ?_
      refine X.istore i54_3 (Ls' := #[.val (.int p0), .val (.int p1), .val (.int p2), .val (.int p3), .val (.int (1 : Int32)), .unset, .unset, .unset, .unset, .unset, .unset]) rfl ?_
      refine X.iload_n i54_5 rfl ?_
      refine X.i2c i54_6 (z := ca) eca ?_
      refine X.istore i54_7 (Ls' := #[.val (.int p0), .val (.int p1), .val (.int p2), .val (.int p3), .val (.int (1 : Int32)), .val (.int ca), .unset, .unset, .unset, .unset, .unset]) rfl ?_
      refine X.iload_n i54_9 rfl ?_
      refine X.i2c i54_10 (z := cb) ecb ?_
      refine X.istore i54_11 (Ls' := #[.val (.int p0), .val (.int p1), .val (.int p2), .val (.int p3), .val (.int (1 : Int32)), .val (.int ca), .val (.int cb), .unset, .unset, .unset, .unset]) rfl ?_
      refine X.iload_n i54_13 rfl ?_
      refine X.i2c i54_14 (z := cc) ecc ?_
      refine X.istore i54_15 (Ls' := #[.val (.int p0), .val (.int p1), .val (.int p2), .val (.int p3), .val (.int (1 : Int32)), .val (.int ca), .val (.int cb), .val (.int cc), .unset, .unset, .unset]) rfl ?_
      refine X.iload i54_17 rfl ?_
      refine X.ifY i54_19 j19_18 (by decide) ?_
      refine X.iload i54_37 rfl ?_
      refine X.iconst i54_39 (z := (1 : Int32)) rfl ?_
      refine X.icN i54_40 (by decide) ?_
      refine X.iload i54_43 rfl ?_
      have wca := own_first1 (hwi [])
      refine X.callS hl (argsL := [(.int ca)]) i54_45 (c_vofW hX X.old ca wca) (hw _ wd_302) (hw _ wd_303) (hw _ wd_2) (hw _ wd_304) (by decide) sf_nil pd37 rfl rfl rfl (W := 0) rfl (by decide) (by decide) (k' := 2) rfl (n' := 6) rfl (by decide) (by decide) fun vm33 T33 h33 v33 X33 r33 Q33 => ?_
      obtain ⟨x_33, t_33, kt_33, rfl, q33_0, q33_1, q33_2, q33_3, q33_4, q33_5⟩ := Q33
      have g34 := Nat.le_trans X.n0le q33_1
      show Go _ _ _ _ _ _ _ _ _ _ [(.ref x_33)]
      refine X33.astore i54_48 rfl (Ls' := #[.val (.int p0), .val (.int p1), .val (.int p2), .val (.int p3), .val (.int (1 : Int32)), .val (.int ca), .val (.int cb), .val (.int cc), .val (.ref x_33), .unset, .unset]) rfl ?_
      refine X33.goto i54_50 j50_61 ?_
      refine X33.aload i54_111 rfl rfl ?_
      refine X33.callSK hl hKn hFK (argsL := [(.ref x_33)]) i54_113 (c_npW hX X33.old x_33 t_33 kt_33 [ca] q33_2 q33_3 q33_4 q33_5 (Nat.le_of_ble_eq_true rfl)) (hw _ wd_22) (hw _ wd_23) (hw _ wd_24) (hw _ wd_25) (by decide) sf_nil pd35 rfl rfl rfl (W := 0) rfl (by decide) (by decide) (k' := 12) rfl (n' := 3024) rfl (by decide) (by decide) fun vm35 T35 h35 v35 X35 r35 Q35 => ?_
      obtain ⟨x_35, m_35, tm_35, km_35, rfl, q35_0, q35_1, q35_2, q35_3, q35_4, q35_5, q35_6, q35_7, q35_8, q35_9⟩ := Q35
      have g36 := Nat.le_trans X33.n0le q35_1
      show Go _ _ _ _ _ _ _ _ _ _ [(.ref x_35)]
      refine X35.astore i54_116 rfl (Ls' := #[.val (.int p0), .val (.int p1), .val (.int p2), .val (.int p3), .val (.int (1 : Int32)), .val (.int ca), .val (.int cb), .val (.int cc), .val (.ref x_33), .val (.ref x_35), .unset]) rfl ?_
      refine X35.aload i54_118 rfl rfl ?_
      refine X35.nonnullY i54_120 j120_5 ?_
      refine X35.aload i54_125 rfl rfl ?_
      refine X35.callVU hl (argsL := []) (a := x_35) i54_127 (c_gm hX X35.old x_35 m_35 q35_4) q35_2 (hw _ wd_216) (ow := "java/lang/Throwable") (hw _ wd_218) (hw _ wd_217) rfl (hw _ wd_220) (hw _ wd_219) (hw _ wd_177) (hw _ wd_221) (by decide) sf_nil pd33 rfl rfl rfl (W := 0) rfl (by decide) (by decide) (k' := 12) rfl (n' := 3024) rfl (by decide) (by decide) fun vm37 T37 h37 v37 X37 r37 Q37 => ?_
      obtain ⟨rfl, rfl⟩ := Q37
      show Go _ _ _ _ _ _ _ _ _ _ [(.ref m_35)]
      refine X37.astore i54_130 rfl (Ls' := #[.val (.int p0), .val (.int p1), .val (.int p2), .val (.int p3), .val (.int (1 : Int32)), .val (.int ca), .val (.int cb), .val (.int cc), .val (.ref x_33), .val (.ref x_35), .val (.ref m_35)]) rfl ?_
      refine X37.aload i54_132 rfl rfl ?_
      refine X37.nonnullY i54_134 j134_5 ?_
      refine X37.aload i54_139 rfl rfl ?_
      refine X37.iload i54_141 rfl ?_
      refine X37.iload i54_143 rfl ?_
      refine X37.iload i54_145 rfl ?_
      refine X37.iload i54_147 rfl ?_
      refine X37.callS hl (argsL := [(.int (1 : Int32)), (.int ca), (.int cb), (.int cc)]) i54_149 (c_e1 hX X37.old ca cb cc hca (Or.inr ⟨iw, hwi⟩)) (hw _ wd_222) (hw _ wd_223) (hw _ wd_224) (hw _ wd_225) (by decide) sf_nil pd36 rfl rfl rfl (W := 1) rfl (by decide) (by decide) (k' := 16) rfl (n' := 3114) rfl (by decide) (by decide) fun vm38 T38 h38 v38 X38 r38 Q38 => ?_
      obtain ⟨s_38, t_38, kb_38, cd_38, N_38, vs_38, rfl, q38_0, q38_1, q38_2, q38_3, q38_4, q38_5, q38_6⟩ := Q38
      have g39 := Nat.le_trans X37.n0le q38_1
      show Go _ _ _ _ _ _ _ _ _ _ [(.ref s_38), (.ref m_35)]
      have E40 := (q35_6.ext q38_0)
      have F41 := (q35_7.ext q38_0)
      have F42 := (q35_8.ext q38_0)
      have V43 := (q35_9.ext q38_0)
      refine own_eqA X38 hw (cs := ([ca] ++ [(32 : Int32), (109 : Int32), (117 : Int32), (115 : Int32), (116 : Int32), (32 : Int32), (98 : Int32), (101 : Int32), (32 : Int32), (97 : Int32), (98 : Int32), (111 : Int32), (118 : Int32), (101 : Int32), (32 : Int32), (122 : Int32), (101 : Int32), (114 : Int32), (111 : Int32)])) (ds := [ca, (32 : Int32), (109 : Int32), (117 : Int32), (115 : Int32), (116 : Int32), (32 : Int32), (98 : Int32), (101 : Int32), (32 : Int32), (97 : Int32), (98 : Int32), (111 : Int32), (118 : Int32), (101 : Int32), (32 : Int32), (122 : Int32), (101 : Int32), (114 : Int32), (111 : Int32)]) i54_152 (hw _ wd_227) (hw _ wd_228) (hw _ wd_230) (hw _ wd_229) (hw _ wd_1) E40 F41 F42 V43 (Or.inr ⟨rfl, rfl, rfl, own_firstE (hwi [(32 : Int32), (109 : Int32), (117 : Int32), (115 : Int32), (116 : Int32), (32 : Int32), (98 : Int32), (101 : Int32), (32 : Int32), (97 : Int32), (98 : Int32), (111 : Int32), (118 : Int32), (101 : Int32), (32 : Int32), (122 : Int32), (101 : Int32), (114 : Int32), (111 : Int32)])⟩) (own_chrS hca own_hct) (Nat.le_of_ble_eq_true rfl) q38_2 q38_3 q38_4 q38_5 q38_6 (own_chrS hca own_hct) (Nat.le_of_ble_eq_true rfl) hcs hcz rfl (W := 0) rfl (by decide) (by decide) (by decide) (by decide) fun T44 r44 X44 q44 => ?_
      obtain rfl : r44 = (1 : Int32) := q44.elim (fun g => g.1) (fun g => absurd rfl g.2)
      refine X44.ifN i54_155 (by decide) ?_
      refine X44.aload i54_158 rfl rfl ?_
      have E45 := (q35_2.ext q38_0)
      have U46 := (q35_3.ext q38_0)
      have F47 := (q35_5.ext q38_0)
      refine X44.getCause (y := (⟨"java/lang/IllegalArgumentException", "getCause", "()Ljava/lang/Throwable;"⟩ : MethodName)) i54_160 E45 U46 F47 rfl rfl (hw _ wd_237) (hw _ wd_239) (hw _ wd_238) rfl (hw _ wd_241) (hw _ wd_240) (hw _ wd_242) (hw _ wd_177) (hw _ wd_180) rfl (W := 0) rfl (by decide) (by decide) (by decide) (by decide) fun T48 X48 => ?_
      refine X48.nonnullN i54_163 ?_
      refine X48.iconst i54_166 (z := (1 : Int32)) rfl ?_
      refine X48.goto i54_167 j167_4 ?_
      exact X48.ireturn i54_171 (t := .boolean) rfl (by decide) rfl (by decide) (by decide) (fun sf hsf => rfl)
  · skip
    rcases own_split2 hca hcb with ⟨lca, lcb⟩ | ⟨iw, hwi⟩
    · skip
      refine X.iload_n i54_0 rfl ?_
      refine X.iconst i54_1 (z := (3 : Int32)) rfl ?_
      refine X.iand i54_2 (z := (2 : Int32)) hk ?_
      refine X.istore i54_3 (Ls' := #[.val (.int p0), .val (.int p1), .val (.int p2), .val (.int p3), .val (.int (2 : Int32)), .unset, .unset, .unset, .unset, .unset, .unset]) rfl ?_
      refine X.iload_n i54_5 rfl ?_
      refine X.i2c i54_6 (z := ca) eca ?_
      refine X.istore i54_7 (Ls' := #[.val (.int p0), .val (.int p1), .val (.int p2), .val (.int p3), .val (.int (2 : Int32)), .val (.int ca), .unset, .unset, .unset, .unset, .unset]) rfl ?_
      refine X.iload_n i54_9 rfl ?_
      refine X.i2c i54_10 (z := cb) ecb ?_
      refine X.istore i54_11 (Ls' := #[.val (.int p0), .val (.int p1), .val (.int p2), .val (.int p3), .val (.int (2 : Int32)), .val (.int ca), .val (.int cb), .unset, .unset, .unset, .unset]) rfl ?_
      refine X.iload_n i54_13 rfl ?_
      refine X.i2c i54_14 (z := cc) ecc ?_
      refine X.istore i54_15 (Ls' := #[.val (.int p0), .val (.int p1), .val (.int p2), .val (.int p3), .val (.int (2 : Int32)), .val (.int ca), .val (.int cb), .val (.int cc), .unset, .unset, .unset]) rfl ?_
      refine X.iload i54_17 rfl ?_
      refine X.ifY i54_19 j19_18 (by decide) ?_
      refine X.iload i54_37 rfl ?_
      refine X.iconst i54_39 (z := (1 : Int32)) rfl ?_
      refine X.icY i54_40 j40_13 (by decide) ?_
      refine X.iload i54_53 rfl ?_
      refine X.iconst i54_55 (z := (2 : Int32)) rfl ?_
      refine X.icN i54_56 (by decide) ?_
      refine X.new i54_59 (hw _ wd_0) (hw _ wd_1) (hw _ wd_2) (k' := 1) rfl (n' := 4) rfl (by decide) (by decide) fun T49 h49 a49 X49 E49 z49 g49 A49 D49 U49 Sf49 => ?_
      refine X49.dup i54_62 rfl ?_
      refine X49.iconst i54_63 (z := (2 : Int32)) rfl ?_
      refine X49.newarray i54_64 (ty := .char) rfl (hw _ wd_3) (by decide) (cap := 2) (by decide) (by decide) (k' := 2) rfl (n' := 6) rfl (by decide) (by decide) fun T50 h50 a50 c50 X50 E50 z50 g50 V50 Sf50 => ?_
      have V50 : Arv Z h50 a50 c50 .char (2 : Int32) [(.int (0 : Int32)), (.int (0 : Int32))] (.int (0 : Int32)) := V50.pad (pad_rep [] (.int (0 : Int32)) 2)
      refine X50.dup i54_66 rfl ?_
      refine X50.iconst i54_67 (z := (0 : Int32)) rfl ?_
      refine X50.iload i54_68 rfl ?_
      refine X50.castore i54_70 V50 ⟨by decide, by decide⟩ (i := 0) rfl (Nat.le_of_ble_eq_true rfl) (y := ca) (own_i2cw hca) g50 fun T51 h51 X51 W51 V51 => ?_
      have V51 : Arv Z h51 a50 c50 .char (2 : Int32) [(.int ca), (.int (0 : Int32))] (.int (0 : Int32)) := V51
      refine X51.dup i54_71 rfl ?_
      refine X51.iconst i54_72 (z := (1 : Int32)) rfl ?_
      refine X51.iload i54_73 rfl ?_
      refine X51.castore i54_75 V51 ⟨by decide, by decide⟩ (i := 1) rfl (Nat.le_of_ble_eq_true rfl) (y := cb) (own_i2cw hcb) g50 fun T52 h52 X52 W52 V52 => ?_
      have V52 : Arv Z h52 a50 c50 .char (2 : Int32) [(.int ca), (.int cb)] (.int (0 : Int32)) := V52
      have E54 := (((A49.ext E50).wr W51).wr W52)
      have F55 : Fld Z h49 a49 "java/lang/String" "value" "[B" .null := D49 (Or.inr (hw _ wd_16)) (ty := (.array .byte)) (by decide)
      have F56 := (((F55.ext E50).other W51 (Or.inl (Nat.ne_of_lt (Nat.lt_of_lt_of_le (A49).lt (Nat.le_of_eq z50))))).other W52 (Or.inl (Nat.ne_of_lt (Nat.lt_of_lt_of_le (A49).lt (Nat.le_of_eq z50)))))
      have F57 : Fld Z h49 a49 "java/lang/String" "coder" "B" (.int (0 : Int32)) := D49 (Or.inr (hw _ wd_17)) (ty := .byte) (by decide)
      have F58 := (((F57.ext E50).other W51 (Or.inl (Nat.ne_of_lt (Nat.lt_of_lt_of_le (A49).lt (Nat.le_of_eq z50))))).other W52 (Or.inl (Nat.ne_of_lt (Nat.lt_of_lt_of_le (A49).lt (Nat.le_of_eq z50)))))
      have Sf59 := ((((CHr.ext E50 X49.chv)).trans (CHr.wr W51 (Safe.arv X50.zw.alike V50 (by simp)) X50.chv)).trans (CHr.wr W52 (Safe.arv X51.zw.alike V51 (by simp)) X51.chv)).safe (A49).lt Sf49
      have hp53 : ∀ c9 ∈ ([ca, cb] : List Int32), ¬ c9 < 0 ∧ ¬ (255 : Int32) < c9 := (own_allS lca (own_allS lcb own_all0))
      refine own_strInit X52 hw (cs := [ca, cb]) (c0 := a50) i54_76 (hw _ wd_4) g49 E54 F56 F58 V52 rfl (Nat.le_of_ble_eq_true rfl) (Nat.le_of_ble_eq_true rfl) hp53 hcs hcz Sf59 rfl (W := 1) rfl (by decide) (by decide) (k' := 3) rfl (n' := 8) rfl (by decide) (by decide) fun T53 h53 t53 b53 X53 K53 y53 S53 => ?_
      refine X53.astore i54_79 rfl (Ls' := #[.val (.int p0), .val (.int p1), .val (.int p2), .val (.int p3), .val (.int (2 : Int32)), .val (.int ca), .val (.int cb), .val (.int cc), .val (.ref a49), .unset, .unset]) rfl ?_
      refine X53.goto i54_81 j81_30 ?_
      refine X53.aload i54_111 rfl rfl ?_
      refine X53.callSK hl hKn hFK (argsL := [(.ref a49)]) i54_113 (c_npL hX X53.old a49 t53 b53 [ca, cb] S53 (Nat.le_of_ble_eq_true rfl)) (hw _ wd_22) (hw _ wd_23) (hw _ wd_24) (hw _ wd_25) (by decide) sf_nil pd35 rfl rfl rfl (W := 0) rfl (by decide) (by decide) (k' := 12) rfl (n' := 2926) rfl (by decide) (by decide) fun vm60 T60 h60 v60 X60 r60 Q60 => ?_
      obtain ⟨x_60, m_60, tm_60, km_60, rfl, q60_0, q60_1, q60_2, q60_3, q60_4, q60_5, q60_6⟩ := Q60
      have g61 := Nat.le_trans X53.n0le q60_1
      show Go _ _ _ _ _ _ _ _ _ _ [(.ref x_60)]
      refine X60.astore i54_116 rfl (Ls' := #[.val (.int p0), .val (.int p1), .val (.int p2), .val (.int p3), .val (.int (2 : Int32)), .val (.int ca), .val (.int cb), .val (.int cc), .val (.ref a49), .val (.ref x_60), .unset]) rfl ?_
      refine X60.aload i54_118 rfl rfl ?_
      refine X60.nonnullY i54_120 j120_5 ?_
      refine X60.aload i54_125 rfl rfl ?_
      refine X60.callVU hl (argsL := []) (a := x_60) i54_127 (c_gm hX X60.old x_60 m_60 q60_4) q60_2 (hw _ wd_216) (ow := "java/lang/Throwable") (hw _ wd_218) (hw _ wd_217) rfl (hw _ wd_220) (hw _ wd_219) (hw _ wd_177) (hw _ wd_221) (by decide) sf_nil pd33 rfl rfl rfl (W := 0) rfl (by decide) (by decide) (k' := 12) rfl (n' := 2926) rfl (by decide) (by decide) fun vm62 T62 h62 v62 X62 r62 Q62 => ?_
      obtain ⟨rfl, rfl⟩ := Q62
      show Go _ _ _ _ _ _ _ _ _ _ [(.ref m_60)]
      refine X62.astore i54_130 rfl (Ls' := #[.val (.int p0), .val (.int p1), .val (.int p2), .val (.int p3), .val (.int (2 : Int32)), .val (.int ca), .val (.int cb), .val (.int cc), .val (.ref a49), .val (.ref x_60), .val (.ref m_60)]) rfl ?_
      refine X62.aload i54_132 rfl rfl ?_
      refine X62.nonnullY i54_134 j134_5 ?_
      refine X62.aload i54_139 rfl rfl ?_
      refine X62.iload i54_141 rfl ?_
      refine X62.iload i54_143 rfl ?_
      refine X62.iload i54_145 rfl ?_
      refine X62.iload i54_147 rfl ?_
      refine X62.callS hl (argsL := [(.int (2 : Int32)), (.int ca), (.int cb), (.int cc)]) i54_149 (c_e2 hX X62.old ca cb cc hca hcb (Or.inl ⟨lca, lcb⟩)) (hw _ wd_222) (hw _ wd_223) (hw _ wd_224) (hw _ wd_225) (by decide) sf_nil pd36 rfl rfl rfl (W := 1) rfl (by decide) (by decide) (k' := 16) rfl (n' := 3017) rfl (by decide) (by decide) fun vm63 T63 h63 v63 X63 r63 Q63 => ?_
      obtain ⟨s_63, t_63, kb_63, cd_63, N_63, vs_63, rfl, q63_0, q63_1, q63_2, q63_3, q63_4, q63_5, q63_6⟩ := Q63
      have g64 := Nat.le_trans X62.n0le q63_1
      show Go _ _ _ _ _ _ _ _ _ _ [(.ref s_63), (.ref m_60)]
      have S65 := (q60_6.ext q63_0)
      refine own_eqA X63 hw (cs := ([ca, cb] ++ [(32 : Int32), (109 : Int32), (117 : Int32), (115 : Int32), (116 : Int32), (32 : Int32), (98 : Int32), (101 : Int32), (32 : Int32), (97 : Int32), (98 : Int32), (111 : Int32), (118 : Int32), (101 : Int32), (32 : Int32), (122 : Int32), (101 : Int32), (114 : Int32), (111 : Int32)])) (ds := [ca, cb, (32 : Int32), (109 : Int32), (117 : Int32), (115 : Int32), (116 : Int32), (32 : Int32), (98 : Int32), (101 : Int32), (32 : Int32), (97 : Int32), (98 : Int32), (111 : Int32), (118 : Int32), (101 : Int32), (32 : Int32), (122 : Int32), (101 : Int32), (114 : Int32), (111 : Int32)]) i54_152 (hw _ wd_227) (hw _ wd_228) (hw _ wd_230) (hw _ wd_229) (hw _ wd_1) S65.1 S65.2.1 S65.2.2.1 S65.2.2.2.1 (Or.inl ⟨rfl, rfl, rfl, fun c9 hc9 => (S65.2.2.2.2 c9 hc9).2⟩) (own_chrS hca (own_chrS hcb own_hct)) (Nat.le_of_ble_eq_true rfl) q63_2 q63_3 q63_4 q63_5 q63_6 (own_chrS hca (own_chrS hcb own_hct)) (Nat.le_of_ble_eq_true rfl) hcs hcz rfl (W := 0) rfl (by decide) (by decide) (by decide) (by decide) fun T66 r66 X66 q66 => ?_
      obtain rfl : r66 = (1 : Int32) := q66.elim (fun g => g.1) (fun g => absurd rfl g.2)
      refine X66.ifN i54_155 (by decide) ?_
      refine X66.aload i54_158 rfl rfl ?_
      have E67 := (q60_2.ext q63_0)
      have U68 := (q60_3.ext q63_0)
      have F69 := (q60_5.ext q63_0)
      refine X66.getCause (y := (⟨"java/lang/IllegalArgumentException", "getCause", "()Ljava/lang/Throwable;"⟩ : MethodName)) i54_160 E67 U68 F69 rfl rfl (hw _ wd_237) (hw _ wd_239) (hw _ wd_238) rfl (hw _ wd_241) (hw _ wd_240) (hw _ wd_242) (hw _ wd_177) (hw _ wd_180) rfl (W := 0) rfl (by decide) (by decide) (by decide) (by decide) fun T70 X70 => ?_
      refine X70.nonnullN i54_163 ?_
      refine X70.iconst i54_166 (z := (1 : Int32)) rfl ?_
      refine X70.goto i54_167 j167_4 ?_
      exact X70.ireturn i54_171 (t := .boolean) rfl (by decide) rfl (by decide) (by decide) (fun sf hsf => rfl)
    · skip
      refine X.iload_n i54_0 rfl ?_
      refine X.iconst i54_1 (z := (3 : Int32)) rfl ?_
      refine X.iand i54_2 (z := (2 : Int32)) hk ?_
      refine X.istore i54_3 (Ls' := #[.val (.int p0), .val (.int p1), .val (.int p2), .val (.int p3), .val (.int (2 : Int32)), .unset, .unset, .unset, .unset, .unset, .unset]) rfl ?_
      refine X.iload_n i54_5 rfl ?_
      refine X.i2c i54_6 (z := ca) eca ?_
      refine X.istore i54_7 (Ls' := #[.val (.int p0), .val (.int p1), .val (.int p2), .val (.int p3), .val (.int (2 : Int32)), .val (.int ca), .unset, .unset, .unset, .unset, .unset]) rfl ?_
      refine X.iload_n i54_9 rfl ?_
      refine X.i2c i54_10 (z := cb) ecb ?_
      refine X.istore i54_11 (Ls' := #[.val (.int p0), .val (.int p1), .val (.int p2), .val (.int p3), .val (.int (2 : Int32)), .val (.int ca), .val (.int cb), .unset, .unset, .unset, .unset]) rfl ?_
      refine X.iload_n i54_13 rfl ?_
      refine X.i2c i54_14 (z := cc) ecc ?_
      refine X.istore i54_15 (Ls' := #[.val (.int p0), .val (.int p1), .val (.int p2), .val (.int p3), .val (.int (2 : Int32)), .val (.int ca), .val (.int cb), .val (.int cc), .unset, .unset, .unset]) rfl ?_
      refine X.iload i54_17 rfl ?_
      refine X.ifY i54_19 j19_18 (by decide) ?_
      refine X.iload i54_37 rfl ?_
      refine X.iconst i54_39 (z := (1 : Int32)) rfl ?_
      refine X.icY i54_40 j40_13 (by decide) ?_
      refine X.iload i54_53 rfl ?_
      refine X.iconst i54_55 (z := (2 : Int32)) rfl ?_
      refine X.icN i54_56 (by decide) ?_
      refine X.new i54_59 (hw _ wd_0) (hw _ wd_1) (hw _ wd_2) (k' := 1) rfl (n' := 4) rfl (by decide) (by decide) fun T71 h71 a71 X71 E71 z71 g71 A71 D71 U71 Sf71 => ?_
      refine X71.dup i54_62 rfl ?_
      refine X71.iconst i54_63 (z := (2 : Int32)) rfl ?_
      refine X71.newarray i54_64 (ty := .char) rfl (hw _ wd_3) (by decide) (cap := 2) (by decide) (by decide) (k' := 2) rfl (n' := 6) rfl (by decide) (by decide) fun T72 h72 a72 c72 X72 E72 z72 g72 V72 Sf72 => ?_
      have V72 : Arv Z h72 a72 c72 .char (2 : Int32) [(.int (0 : Int32)), (.int (0 : Int32))] (.int (0 : Int32)) := V72.pad (pad_rep [] (.int (0 : Int32)) 2)
      refine X72.dup i54_66 rfl ?_
      refine X72.iconst i54_67 (z := (0 : Int32)) rfl ?_
      refine X72.iload i54_68 rfl ?_
      refine X72.castore i54_70 V72 ⟨by decide, by decide⟩ (i := 0) rfl (Nat.le_of_ble_eq_true rfl) (y := ca) (own_i2cw hca) g72 fun T73 h73 X73 W73 V73 => ?_
      have V73 : Arv Z h73 a72 c72 .char (2 : Int32) [(.int ca), (.int (0 : Int32))] (.int (0 : Int32)) := V73
      refine X73.dup i54_71 rfl ?_
      refine X73.iconst i54_72 (z := (1 : Int32)) rfl ?_
      refine X73.iload i54_73 rfl ?_
      refine X73.castore i54_75 V73 ⟨by decide, by decide⟩ (i := 1) rfl (Nat.le_of_ble_eq_true rfl) (y := cb) (own_i2cw hcb) g72 fun T74 h74 X74 W74 V74 => ?_
      have V74 : Arv Z h74 a72 c72 .char (2 : Int32) [(.int ca), (.int cb)] (.int (0 : Int32)) := V74
      have E75 := (((A71.ext E72).wr W73).wr W74)
      have F76 : Fld Z h71 a71 "java/lang/String" "value" "[B" .null := D71 (Or.inr (hw _ wd_16)) (ty := (.array .byte)) (by decide)
      have F77 := (((F76.ext E72).other W73 (Or.inl (Nat.ne_of_lt (Nat.lt_of_lt_of_le (A71).lt (Nat.le_of_eq z72))))).other W74 (Or.inl (Nat.ne_of_lt (Nat.lt_of_lt_of_le (A71).lt (Nat.le_of_eq z72)))))
      have F78 : Fld Z h71 a71 "java/lang/String" "coder" "B" (.int (0 : Int32)) := D71 (Or.inr (hw _ wd_17)) (ty := .byte) (by decide)
      have F79 := (((F78.ext E72).other W73 (Or.inl (Nat.ne_of_lt (Nat.lt_of_lt_of_le (A71).lt (Nat.le_of_eq z72))))).other W74 (Or.inl (Nat.ne_of_lt (Nat.lt_of_lt_of_le (A71).lt (Nat.le_of_eq z72)))))
      have Sf81 := ((((CHr.ext E72 X71.chv)).trans (CHr.wr W73 (Safe.arv X72.zw.alike V72 (by simp)) X72.chv)).trans (CHr.wr W74 (Safe.arv X73.zw.alike V73 (by simp)) X73.chv)).safe (A71).lt Sf71
      refine X74.callI hl (argsL := [(.ref a72)]) (a := a71) i54_76 (c_w1 hX X74.old a71 a72 c72 (.int (0 : Int32)) [ca, cb] iw E75 g71 F77 F79 V74 (Nat.le_of_ble_eq_true rfl) (hwi []) (own_chrS hca (own_chrS hcb own_chr0))) (hw _ wd_4) (hw _ wd_5) (hw _ wd_2) (hw _ wd_6) rfl (by decide) (sf_cons ⟨Sf81, (E75).lt⟩ sf_nil) pd34 rfl rfl rfl (W := 1) rfl (by decide) (by decide) (k' := 4) rfl (n' := 72) rfl (by decide) (by decide) fun vm80 T80 h80 v80 X80 r80 Q80 => ?_
      obtain ⟨t_80, kt_80, rfl, q80_0, q80_1, q80_2, q80_3, q80_4, q80_5⟩ := Q80
      have g82 := Nat.le_trans X74.n0le q80_5
      show Go _ _ _ _ _ _ _ _ _ _ [(.ref a71)]
      refine X80.astore i54_79 rfl (Ls' := #[.val (.int p0), .val (.int p1), .val (.int p2), .val (.int p3), .val (.int (2 : Int32)), .val (.int ca), .val (.int cb), .val (.int cc), .val (.ref a71), .unset, .unset]) rfl ?_
      refine X80.goto i54_81 j81_30 ?_
      refine X80.aload i54_111 rfl rfl ?_
      refine X80.callSK hl hKn hFK (argsL := [(.ref a71)]) i54_113 (c_npW hX X80.old a71 t_80 kt_80 [ca, cb] q80_1 q80_2 q80_3 q80_4 (Nat.le_of_ble_eq_true rfl)) (hw _ wd_22) (hw _ wd_23) (hw _ wd_24) (hw _ wd_25) (by decide) sf_nil pd35 rfl rfl rfl (W := 0) rfl (by decide) (by decide) (k' := 14) rfl (n' := 3090) rfl (by decide) (by decide) fun vm83 T83 h83 v83 X83 r83 Q83 => ?_
      obtain ⟨x_83, m_83, tm_83, km_83, rfl, q83_0, q83_1, q83_2, q83_3, q83_4, q83_5, q83_6, q83_7, q83_8, q83_9⟩ := Q83
      have g84 := Nat.le_trans X80.n0le q83_1
      show Go _ _ _ _ _ _ _ _ _ _ [(.ref x_83)]
      refine X83.astore i54_116 rfl (Ls' := #[.val (.int p0), .val (.int p1), .val (.int p2), .val (.int p3), .val (.int (2 : Int32)), .val (.int ca), .val (.int cb), .val (.int cc), .val (.ref a71), .val (.ref x_83), .unset]) rfl ?_
      refine X83.aload i54_118 rfl rfl ?_
      refine X83.nonnullY i54_120 j120_5 ?_
      refine X83.aload i54_125 rfl rfl ?_
      refine X83.callVU hl (argsL := []) (a := x_83) i54_127 (c_gm hX X83.old x_83 m_83 q83_4) q83_2 (hw _ wd_216) (ow := "java/lang/Throwable") (hw _ wd_218) (hw _ wd_217) rfl (hw _ wd_220) (hw _ wd_219) (hw _ wd_177) (hw _ wd_221) (by decide) sf_nil pd33 rfl rfl rfl (W := 0) rfl (by decide) (by decide) (k' := 14) rfl (n' := 3090) rfl (by decide) (by decide) fun vm85 T85 h85 v85 X85 r85 Q85 => ?_
      obtain ⟨rfl, rfl⟩ := Q85
      show Go _ _ _ _ _ _ _ _ _ _ [(.ref m_83)]
      refine X85.astore i54_130 rfl (Ls' := #[.val (.int p0), .val (.int p1), .val (.int p2), .val (.int p3), .val (.int (2 : Int32)), .val (.int ca), .val (.int cb), .val (.int cc), .val (.ref a71), .val (.ref x_83), .val (.ref m_83)]) rfl ?_
      refine X85.aload i54_132 rfl rfl ?_
      refine X85.nonnullY i54_134 j134_5 ?_
      refine X85.aload i54_139 rfl rfl ?_
      refine X85.iload i54_141 rfl ?_
      refine X85.iload i54_143 rfl ?_
      refine X85.iload i54_145 rfl ?_
      refine X85.iload i54_147 rfl ?_
      refine X85.callS hl (argsL := [(.int (2 : Int32)), (.int ca), (.int cb), (.int cc)]) i54_149 (c_e2 hX X85.old ca cb cc hca hcb (Or.inr ⟨iw, hwi⟩)) (hw _ wd_222) (hw _ wd_223) (hw _ wd_224) (hw _ wd_225) (by decide) sf_nil pd36 rfl rfl rfl (W := 1) rfl (by decide) (by decide) (k' := 18) rfl (n' := 3181) rfl (by decide) (by decide) fun vm86 T86 h86 v86 X86 r86 Q86 => ?_
      obtain ⟨s_86, t_86, kb_86, cd_86, N_86, vs_86, rfl, q86_0, q86_1, q86_2, q86_3, q86_4, q86_5, q86_6⟩ := Q86
      have g87 := Nat.le_trans X85.n0le q86_1
      show Go _ _ _ _ _ _ _ _ _ _ [(.ref s_86), (.ref m_83)]
      have E88 := (q83_6.ext q86_0)
      have F89 := (q83_7.ext q86_0)
      have F90 := (q83_8.ext q86_0)
      have V91 := (q83_9.ext q86_0)
      refine own_eqA X86 hw (cs := ([ca, cb] ++ [(32 : Int32), (109 : Int32), (117 : Int32), (115 : Int32), (116 : Int32), (32 : Int32), (98 : Int32), (101 : Int32), (32 : Int32), (97 : Int32), (98 : Int32), (111 : Int32), (118 : Int32), (101 : Int32), (32 : Int32), (122 : Int32), (101 : Int32), (114 : Int32), (111 : Int32)])) (ds := [ca, cb, (32 : Int32), (109 : Int32), (117 : Int32), (115 : Int32), (116 : Int32), (32 : Int32), (98 : Int32), (101 : Int32), (32 : Int32), (97 : Int32), (98 : Int32), (111 : Int32), (118 : Int32), (101 : Int32), (32 : Int32), (122 : Int32), (101 : Int32), (114 : Int32), (111 : Int32)]) i54_152 (hw _ wd_227) (hw _ wd_228) (hw _ wd_230) (hw _ wd_229) (hw _ wd_1) E88 F89 F90 V91 (Or.inr ⟨rfl, rfl, rfl, own_firstE (hwi [(32 : Int32), (109 : Int32), (117 : Int32), (115 : Int32), (116 : Int32), (32 : Int32), (98 : Int32), (101 : Int32), (32 : Int32), (97 : Int32), (98 : Int32), (111 : Int32), (118 : Int32), (101 : Int32), (32 : Int32), (122 : Int32), (101 : Int32), (114 : Int32), (111 : Int32)])⟩) (own_chrS hca (own_chrS hcb own_hct)) (Nat.le_of_ble_eq_true rfl) q86_2 q86_3 q86_4 q86_5 q86_6 (own_chrS hca (own_chrS hcb own_hct)) (Nat.le_of_ble_eq_true rfl) hcs hcz rfl (W := 0) rfl (by decide) (by decide) (by decide) (by decide) fun T92 r92 X92 q92 => ?_
      obtain rfl : r92 = (1 : Int32) := q92.elim (fun g => g.1) (fun g => absurd rfl g.2)
      refine X92.ifN i54_155 (by decide) ?_
      refine X92.aload i54_158 rfl rfl ?_
      have E93 := (q83_2.ext q86_0)
      have U94 := (q83_3.ext q86_0)
      have F95 := (q83_5.ext q86_0)
      refine X92.getCause (y := (⟨"java/lang/IllegalArgumentException", "getCause", "()Ljava/lang/Throwable;"⟩ : MethodName)) i54_160 E93 U94 F95 rfl rfl (hw _ wd_237) (hw _ wd_239) (hw _ wd_238) rfl (hw _ wd_241) (hw _ wd_240) (hw _ wd_242) (hw _ wd_177) (hw _ wd_180) rfl (W := 0) rfl (by decide) (by decide) (by decide) (by decide) fun T96 X96 => ?_
      refine X96.nonnullN i54_163 ?_
      refine X96.iconst i54_166 (z := (1 : Int32)) rfl ?_
      refine X96.goto i54_167 j167_4 ?_
      exact X96.ireturn i54_171 (t := .boolean) rfl (by decide) rfl (by decide) (by decide) (fun sf hsf => rfl)
  · skip
    rcases own_split3 hca hcb hcc with ⟨lca, lcb, lcc⟩ | ⟨iw, hwi⟩
    · skip
      refine X.iload_n i54_0 rfl ?_
      refine X.iconst i54_1 (z := (3 : Int32)) rfl ?_
      refine X.iand i54_2 (z := (3 : Int32)) hk ?_
      refine X.istore i54_3 (Ls' := #[.val (.int p0), .val (.int p1), .val (.int p2), .val (.int p3), .val (.int (3 : Int32)), .unset, .unset, .unset, .unset, .unset, .unset]) rfl ?_
      refine X.iload_n i54_5 rfl ?_
      refine X.i2c i54_6 (z := ca) eca ?_
      refine X.istore i54_7 (Ls' := #[.val (.int p0), .val (.int p1), .val (.int p2), .val (.int p3), .val (.int (3 : Int32)), .val (.int ca), .unset, .unset, .unset, .unset, .unset]) rfl ?_
      refine X.iload_n i54_9 rfl ?_
      refine X.i2c i54_10 (z := cb) ecb ?_
      refine X.istore i54_11 (Ls' := #[.val (.int p0), .val (.int p1), .val (.int p2), .val (.int p3), .val (.int (3 : Int32)), .val (.int ca), .val (.int cb), .unset, .unset, .unset, .unset]) rfl ?_
      refine X.iload_n i54_13 rfl ?_
      refine X.i2c i54_14 (z := cc) ecc ?_
      refine X.istore i54_15 (Ls' := #[.val (.int p0), .val (.int p1), .val (.int p2), .val (.int p3), .val (.int (3 : Int32)), .val (.int ca), .val (.int cb), .val (.int cc), .unset, .unset, .unset]) rfl ?_
      refine X.iload i54_17 rfl ?_
      refine X.ifY i54_19 j19_18 (by decide) ?_
      refine X.iload i54_37 rfl ?_
      refine X.iconst i54_39 (z := (1 : Int32)) rfl ?_
      refine X.icY i54_40 j40_13 (by decide) ?_
      refine X.iload i54_53 rfl ?_
      refine X.iconst i54_55 (z := (2 : Int32)) rfl ?_
      refine X.icY i54_56 j56_28 (by decide) ?_
      refine X.new i54_84 (hw _ wd_0) (hw _ wd_1) (hw _ wd_2) (k' := 1) rfl (n' := 4) rfl (by decide) (by decide) fun T97 h97 a97 X97 E97 z97 g97 A97 D97 U97 Sf97 => ?_
      refine X97.dup i54_87 rfl ?_
      refine X97.iconst i54_88 (z := (3 : Int32)) rfl ?_
      refine X97.newarray i54_89 (ty := .char) rfl (hw _ wd_3) (by decide) (cap := 3) (by decide) (by decide) (k' := 2) rfl (n' := 7) rfl (by decide) (by decide) fun T98 h98 a98 c98 X98 E98 z98 g98 V98 Sf98 => ?_
      have V98 : Arv Z h98 a98 c98 .char (3 : Int32) [(.int (0 : Int32)), (.int (0 : Int32)), (.int (0 : Int32))] (.int (0 : Int32)) := V98.pad (pad_rep [] (.int (0 : Int32)) 3)
      refine X98.dup i54_91 rfl ?_
      refine X98.iconst i54_92 (z := (0 : Int32)) rfl ?_
      refine X98.iload i54_93 rfl ?_
      refine X98.castore i54_95 V98 ⟨by decide, by decide⟩ (i := 0) rfl (Nat.le_of_ble_eq_true rfl) (y := ca) (own_i2cw hca) g98 fun T99 h99 X99 W99 V99 => ?_
      have V99 : Arv Z h99 a98 c98 .char (3 : Int32) [(.int ca), (.int (0 : Int32)), (.int (0 : Int32))] (.int (0 : Int32)) := V99
      refine X99.dup i54_96 rfl ?_
      refine X99.iconst i54_97 (z := (1 : Int32)) rfl ?_
      refine X99.iload i54_98 rfl ?_
      refine X99.castore i54_100 V99 ⟨by decide, by decide⟩ (i := 1) rfl (Nat.le_of_ble_eq_true rfl) (y := cb) (own_i2cw hcb) g98 fun T100 h100 X100 W100 V100 => ?_
      have V100 : Arv Z h100 a98 c98 .char (3 : Int32) [(.int ca), (.int cb), (.int (0 : Int32))] (.int (0 : Int32)) := V100
      refine X100.dup i54_101 rfl ?_
      refine X100.iconst i54_102 (z := (2 : Int32)) rfl ?_
      refine X100.iload i54_103 rfl ?_
      refine X100.castore i54_105 V100 ⟨by decide, by decide⟩ (i := 2) rfl (Nat.le_of_ble_eq_true rfl) (y := cc) (own_i2cw hcc) g98 fun T101 h101 X101 W101 V101 => ?_
      have V101 : Arv Z h101 a98 c98 .char (3 : Int32) [(.int ca), (.int cb), (.int cc)] (.int (0 : Int32)) := V101
      have E103 := ((((A97.ext E98).wr W99).wr W100).wr W101)
      have F104 : Fld Z h97 a97 "java/lang/String" "value" "[B" .null := D97 (Or.inr (hw _ wd_16)) (ty := (.array .byte)) (by decide)
      have F105 := ((((F104.ext E98).other W99 (Or.inl (Nat.ne_of_lt (Nat.lt_of_lt_of_le (A97).lt (Nat.le_of_eq z98))))).other W100 (Or.inl (Nat.ne_of_lt (Nat.lt_of_lt_of_le (A97).lt (Nat.le_of_eq z98))))).other W101 (Or.inl (Nat.ne_of_lt (Nat.lt_of_lt_of_le (A97).lt (Nat.le_of_eq z98)))))
      have F106 : Fld Z h97 a97 "java/lang/String" "coder" "B" (.int (0 : Int32)) := D97 (Or.inr (hw _ wd_17)) (ty := .byte) (by decide)
      have F107 := ((((F106.ext E98).other W99 (Or.inl (Nat.ne_of_lt (Nat.lt_of_lt_of_le (A97).lt (Nat.le_of_eq z98))))).other W100 (Or.inl (Nat.ne_of_lt (Nat.lt_of_lt_of_le (A97).lt (Nat.le_of_eq z98))))).other W101 (Or.inl (Nat.ne_of_lt (Nat.lt_of_lt_of_le (A97).lt (Nat.le_of_eq z98)))))
      have Sf108 := (((((CHr.ext E98 X97.chv)).trans (CHr.wr W99 (Safe.arv X98.zw.alike V98 (by simp)) X98.chv)).trans (CHr.wr W100 (Safe.arv X99.zw.alike V99 (by simp)) X99.chv)).trans (CHr.wr W101 (Safe.arv X100.zw.alike V100 (by simp)) X100.chv)).safe (A97).lt Sf97
      have hp102 : ∀ c9 ∈ ([ca, cb, cc] : List Int32), ¬ c9 < 0 ∧ ¬ (255 : Int32) < c9 := (own_allS lca (own_allS lcb (own_allS lcc own_all0)))
      refine own_strInit X101 hw (cs := [ca, cb, cc]) (c0 := a98) i54_106 (hw _ wd_4) g97 E103 F105 F107 V101 rfl (Nat.le_of_ble_eq_true rfl) (Nat.le_of_ble_eq_true rfl) hp102 hcs hcz Sf108 rfl (W := 1) rfl (by decide) (by decide) (k' := 3) rfl (n' := 10) rfl (by decide) (by decide) fun T102 h102 t102 b102 X102 K102 y102 S102 => ?_
      refine X102.astore i54_109 rfl (Ls' := #[.val (.int p0), .val (.int p1), .val (.int p2), .val (.int p3), .val (.int (3 : Int32)), .val (.int ca), .val (.int cb), .val (.int cc), .val (.ref a97), .unset, .unset]) rfl ?_
      refine X102.aload i54_111 rfl rfl ?_
      refine X102.callSK hl hKn hFK (argsL := [(.ref a97)]) i54_113 (c_npL hX X102.old a97 t102 b102 [ca, cb, cc] S102 (Nat.le_of_ble_eq_true rfl)) (hw _ wd_22) (hw _ wd_23) (hw _ wd_24) (hw _ wd_25) (by decide) sf_nil pd35 rfl rfl rfl (W := 0) rfl (by decide) (by decide) (k' := 12) rfl (n' := 2928) rfl (by decide) (by decide) fun vm109 T109 h109 v109 X109 r109 Q109 => ?_
      obtain ⟨x_109, m_109, tm_109, km_109, rfl, q109_0, q109_1, q109_2, q109_3, q109_4, q109_5, q109_6⟩ := Q109
      have g110 := Nat.le_trans X102.n0le q109_1
      show Go _ _ _ _ _ _ _ _ _ _ [(.ref x_109)]
      refine X109.astore i54_116 rfl (Ls' := #[.val (.int p0), .val (.int p1), .val (.int p2), .val (.int p3), .val (.int (3 : Int32)), .val (.int ca), .val (.int cb), .val (.int cc), .val (.ref a97), .val (.ref x_109), .unset]) rfl ?_
      refine X109.aload i54_118 rfl rfl ?_
      refine X109.nonnullY i54_120 j120_5 ?_
      refine X109.aload i54_125 rfl rfl ?_
      refine X109.callVU hl (argsL := []) (a := x_109) i54_127 (c_gm hX X109.old x_109 m_109 q109_4) q109_2 (hw _ wd_216) (ow := "java/lang/Throwable") (hw _ wd_218) (hw _ wd_217) rfl (hw _ wd_220) (hw _ wd_219) (hw _ wd_177) (hw _ wd_221) (by decide) sf_nil pd33 rfl rfl rfl (W := 0) rfl (by decide) (by decide) (k' := 12) rfl (n' := 2928) rfl (by decide) (by decide) fun vm111 T111 h111 v111 X111 r111 Q111 => ?_
      obtain ⟨rfl, rfl⟩ := Q111
      show Go _ _ _ _ _ _ _ _ _ _ [(.ref m_109)]
      refine X111.astore i54_130 rfl (Ls' := #[.val (.int p0), .val (.int p1), .val (.int p2), .val (.int p3), .val (.int (3 : Int32)), .val (.int ca), .val (.int cb), .val (.int cc), .val (.ref a97), .val (.ref x_109), .val (.ref m_109)]) rfl ?_
      refine X111.aload i54_132 rfl rfl ?_
      refine X111.nonnullY i54_134 j134_5 ?_
      refine X111.aload i54_139 rfl rfl ?_
      refine X111.iload i54_141 rfl ?_
      refine X111.iload i54_143 rfl ?_
      refine X111.iload i54_145 rfl ?_
      refine X111.iload i54_147 rfl ?_
      refine X111.callS hl (argsL := [(.int (3 : Int32)), (.int ca), (.int cb), (.int cc)]) i54_149 (c_e3 hX X111.old ca cb cc hca hcb hcc (Or.inl ⟨lca, lcb, lcc⟩)) (hw _ wd_222) (hw _ wd_223) (hw _ wd_224) (hw _ wd_225) (by decide) sf_nil pd36 rfl rfl rfl (W := 1) rfl (by decide) (by decide) (k' := 16) rfl (n' := 3020) rfl (by decide) (by decide) fun vm112 T112 h112 v112 X112 r112 Q112 => ?_
      obtain ⟨s_112, t_112, kb_112, cd_112, N_112, vs_112, rfl, q112_0, q112_1, q112_2, q112_3, q112_4, q112_5, q112_6⟩ := Q112
      have g113 := Nat.le_trans X111.n0le q112_1
      show Go _ _ _ _ _ _ _ _ _ _ [(.ref s_112), (.ref m_109)]
      have S114 := (q109_6.ext q112_0)
      refine own_eqA X112 hw (cs := ([ca, cb, cc] ++ [(32 : Int32), (109 : Int32), (117 : Int32), (115 : Int32), (116 : Int32), (32 : Int32), (98 : Int32), (101 : Int32), (32 : Int32), (97 : Int32), (98 : Int32), (111 : Int32), (118 : Int32), (101 : Int32), (32 : Int32), (122 : Int32), (101 : Int32), (114 : Int32), (111 : Int32)])) (ds := [ca, cb, cc, (32 : Int32), (109 : Int32), (117 : Int32), (115 : Int32), (116 : Int32), (32 : Int32), (98 : Int32), (101 : Int32), (32 : Int32), (97 : Int32), (98 : Int32), (111 : Int32), (118 : Int32), (101 : Int32), (32 : Int32), (122 : Int32), (101 : Int32), (114 : Int32), (111 : Int32)]) i54_152 (hw _ wd_227) (hw _ wd_228) (hw _ wd_230) (hw _ wd_229) (hw _ wd_1) S114.1 S114.2.1 S114.2.2.1 S114.2.2.2.1 (Or.inl ⟨rfl, rfl, rfl, fun c9 hc9 => (S114.2.2.2.2 c9 hc9).2⟩) (own_chrS hca (own_chrS hcb (own_chrS hcc own_hct))) (Nat.le_of_ble_eq_true rfl) q112_2 q112_3 q112_4 q112_5 q112_6 (own_chrS hca (own_chrS hcb (own_chrS hcc own_hct))) (Nat.le_of_ble_eq_true rfl) hcs hcz rfl (W := 0) rfl (by decide) (by decide) (by decide) (by decide) fun T115 r115 X115 q115 => ?_
      obtain rfl : r115 = (1 : Int32) := q115.elim (fun g => g.1) (fun g => absurd rfl g.2)
      refine X115.ifN i54_155 (by decide) ?_
      refine X115.aload i54_158 rfl rfl ?_
      have E116 := (q109_2.ext q112_0)
      have U117 := (q109_3.ext q112_0)
      have F118 := (q109_5.ext q112_0)
      refine X115.getCause (y := (⟨"java/lang/IllegalArgumentException", "getCause", "()Ljava/lang/Throwable;"⟩ : MethodName)) i54_160 E116 U117 F118 rfl rfl (hw _ wd_237) (hw _ wd_239) (hw _ wd_238) rfl (hw _ wd_241) (hw _ wd_240) (hw _ wd_242) (hw _ wd_177) (hw _ wd_180) rfl (W := 0) rfl (by decide) (by decide) (by decide) (by decide) fun T119 X119 => ?_
      refine X119.nonnullN i54_163 ?_
      refine X119.iconst i54_166 (z := (1 : Int32)) rfl ?_
      refine X119.goto i54_167 j167_4 ?_
      exact X119.ireturn i54_171 (t := .boolean) rfl (by decide) rfl (by decide) (by decide) (fun sf hsf => rfl)
    · skip
      refine X.iload_n i54_0 rfl ?_
      refine X.iconst i54_1 (z := (3 : Int32)) rfl ?_
      refine X.iand i54_2 (z := (3 : Int32)) hk ?_
      refine X.istore i54_3 (Ls' := #[.val (.int p0), .val (.int p1), .val (.int p2), .val (.int p3), .val (.int (3 : Int32)), .unset, .unset, .unset, .unset, .unset, .unset]) rfl ?_
      refine X.iload_n i54_5 rfl ?_
      refine X.i2c i54_6 (z := ca) eca ?_
      refine X.istore i54_7 (Ls' := #[.val (.int p0), .val (.int p1), .val (.int p2), .val (.int p3), .val (.int (3 : Int32)), .val (.int ca), .unset, .unset, .unset, .unset, .unset]) rfl ?_
      refine X.iload_n i54_9 rfl ?_
      refine X.i2c i54_10 (z := cb) ecb ?_
      refine X.istore i54_11 (Ls' := #[.val (.int p0), .val (.int p1), .val (.int p2), .val (.int p3), .val (.int (3 : Int32)), .val (.int ca), .val (.int cb), .unset, .unset, .unset, .unset]) rfl ?_
      refine X.iload_n i54_13 rfl ?_
      refine X.i2c i54_14 (z := cc) ecc ?_
      refine X.istore i54_15 (Ls' := #[.val (.int p0), .val (.int p1), .val (.int p2), .val (.int p3), .val (.int (3 : Int32)), .val (.int ca), .val (.int cb), .val (.int cc), .unset, .unset, .unset]) rfl ?_
      refine X.iload i54_17 rfl ?_
      refine X.ifY i54_19 j19_18 (by decide) ?_
      refine X.iload i54_37 rfl ?_
      refine X.iconst i54_39 (z := (1 : Int32)) rfl ?_
      refine X.icY i54_40 j40_13 (by decide) ?_
      refine X.iload i54_53 rfl ?_
      refine X.iconst i54_55 (z := (2 : Int32)) rfl ?_
      refine X.icY i54_56 j56_28 (by decide) ?_
      refine X.new i54_84 (hw _ wd_0) (hw _ wd_1) (hw _ wd_2) (k' := 1) rfl (n' := 4) rfl (by decide) (by decide) fun T120 h120 a120 X120 E120 z120 g120 A120 D120 U120 Sf120 => ?_
      refine X120.dup i54_87 rfl ?_
      refine X120.iconst i54_88 (z := (3 : Int32)) rfl ?_
      refine X120.newarray i54_89 (ty := .char) rfl (hw _ wd_3) (by decide) (cap := 3) (by decide) (by decide) (k' := 2) rfl (n' := 7) rfl (by decide) (by decide) fun T121 h121 a121 c121 X121 E121 z121 g121 V121 Sf121 => ?_
      have V121 : Arv Z h121 a121 c121 .char (3 : Int32) [(.int (0 : Int32)), (.int (0 : Int32)), (.int (0 : Int32))] (.int (0 : Int32)) := V121.pad (pad_rep [] (.int (0 : Int32)) 3)
      refine X121.dup i54_91 rfl ?_
      refine X121.iconst i54_92 (z := (0 : Int32)) rfl ?_
      refine X121.iload i54_93 rfl ?_
      refine X121.castore i54_95 V121 ⟨by decide, by decide⟩ (i := 0) rfl (Nat.le_of_ble_eq_true rfl) (y := ca) (own_i2cw hca) g121 fun T122 h122 X122 W122 V122 => ?_
      have V122 : Arv Z h122 a121 c121 .char (3 : Int32) [(.int ca), (.int (0 : Int32)), (.int (0 : Int32))] (.int (0 : Int32)) := V122
      refine X122.dup i54_96 rfl ?_
      refine X122.iconst i54_97 (z := (1 : Int32)) rfl ?_
      refine X122.iload i54_98 rfl ?_
      refine X122.castore i54_100 V122 ⟨by decide, by decide⟩ (i := 1) rfl (Nat.le_of_ble_eq_true rfl) (y := cb) (own_i2cw hcb) g121 fun T123 h123 X123 W123 V123 => ?_
      have V123 : Arv Z h123 a121 c121 .char (3 : Int32) [(.int ca), (.int cb), (.int (0 : Int32))] (.int (0 : Int32)) := V123
      refine X123.dup i54_101 rfl ?_
      refine X123.iconst i54_102 (z := (2 : Int32)) rfl ?_
      refine X123.iload i54_103 rfl ?_
      refine X123.castore i54_105 V123 ⟨by decide, by decide⟩ (i := 2) rfl (Nat.le_of_ble_eq_true rfl) (y := cc) (own_i2cw hcc) g121 fun T124 h124 X124 W124 V124 => ?_
      have V124 : Arv Z h124 a121 c121 .char (3 : Int32) [(.int ca), (.int cb), (.int cc)] (.int (0 : Int32)) := V124
      have E125 := ((((A120.ext E121).wr W122).wr W123).wr W124)
      have F126 : Fld Z h120 a120 "java/lang/String" "value" "[B" .null := D120 (Or.inr (hw _ wd_16)) (ty := (.array .byte)) (by decide)
      have F127 := ((((F126.ext E121).other W122 (Or.inl (Nat.ne_of_lt (Nat.lt_of_lt_of_le (A120).lt (Nat.le_of_eq z121))))).other W123 (Or.inl (Nat.ne_of_lt (Nat.lt_of_lt_of_le (A120).lt (Nat.le_of_eq z121))))).other W124 (Or.inl (Nat.ne_of_lt (Nat.lt_of_lt_of_le (A120).lt (Nat.le_of_eq z121)))))
      have F128 : Fld Z h120 a120 "java/lang/String" "coder" "B" (.int (0 : Int32)) := D120 (Or.inr (hw _ wd_17)) (ty := .byte) (by decide)
      have F129 := ((((F128.ext E121).other W122 (Or.inl (Nat.ne_of_lt (Nat.lt_of_lt_of_le (A120).lt (Nat.le_of_eq z121))))).other W123 (Or.inl (Nat.ne_of_lt (Nat.lt_of_lt_of_le (A120).lt (Nat.le_of_eq z121))))).other W124 (Or.inl (Nat.ne_of_lt (Nat.lt_of_lt_of_le (A120).lt (Nat.le_of_eq z121)))))
      have Sf131 := (((((CHr.ext E121 X120.chv)).trans (CHr.wr W122 (Safe.arv X121.zw.alike V121 (by simp)) X121.chv)).trans (CHr.wr W123 (Safe.arv X122.zw.alike V122 (by simp)) X122.chv)).trans (CHr.wr W124 (Safe.arv X123.zw.alike V123 (by simp)) X123.chv)).safe (A120).lt Sf120
      refine X124.callI hl (argsL := [(.ref a121)]) (a := a120) i54_106 (c_w1 hX X124.old a120 a121 c121 (.int (0 : Int32)) [ca, cb, cc] iw E125 g120 F127 F129 V124 (Nat.le_of_ble_eq_true rfl) (hwi []) (own_chrS hca (own_chrS hcb (own_chrS hcc own_chr0)))) (hw _ wd_4) (hw _ wd_5) (hw _ wd_2) (hw _ wd_6) rfl (by decide) (sf_cons ⟨Sf131, (E125).lt⟩ sf_nil) pd34 rfl rfl rfl (W := 1) rfl (by decide) (by decide) (k' := 4) rfl (n' := 73) rfl (by decide) (by decide) fun vm130 T130 h130 v130 X130 r130 Q130 => ?_
      obtain ⟨t_130, kt_130, rfl, q130_0, q130_1, q130_2, q130_3, q130_4, q130_5⟩ := Q130
      have g132 := Nat.le_trans X124.n0le q130_5
      show Go _ _ _ _ _ _ _ _ _ _ [(.ref a120)]
      refine X130.astore i54_109 rfl (Ls' := #[.val (.int p0), .val (.int p1), .val (.int p2), .val (.int p3), .val (.int (3 : Int32)), .val (.int ca), .val (.int cb), .val (.int cc), .val (.ref a120), .unset, .unset]) rfl ?_
      refine X130.aload i54_111 rfl rfl ?_
      refine X130.callSK hl hKn hFK (argsL := [(.ref a120)]) i54_113 (c_npW hX X130.old a120 t_130 kt_130 [ca, cb, cc] q130_1 q130_2 q130_3 q130_4 (Nat.le_of_ble_eq_true rfl)) (hw _ wd_22) (hw _ wd_23) (hw _ wd_24) (hw _ wd_25) (by decide) sf_nil pd35 rfl rfl rfl (W := 0) rfl (by decide) (by decide) (k' := 14) rfl (n' := 3091) rfl (by decide) (by decide) fun vm133 T133 h133 v133 X133 r133 Q133 => ?_
      obtain ⟨x_133, m_133, tm_133, km_133, rfl, q133_0, q133_1, q133_2, q133_3, q133_4, q133_5, q133_6, q133_7, q133_8, q133_9⟩ := Q133
      have g134 := Nat.le_trans X130.n0le q133_1
      show Go _ _ _ _ _ _ _ _ _ _ [(.ref x_133)]
      refine X133.astore i54_116 rfl (Ls' := #[.val (.int p0), .val (.int p1), .val (.int p2), .val (.int p3), .val (.int (3 : Int32)), .val (.int ca), .val (.int cb), .val (.int cc), .val (.ref a120), .val (.ref x_133), .unset]) rfl ?_
      refine X133.aload i54_118 rfl rfl ?_
      refine X133.nonnullY i54_120 j120_5 ?_
      refine X133.aload i54_125 rfl rfl ?_
      refine X133.callVU hl (argsL := []) (a := x_133) i54_127 (c_gm hX X133.old x_133 m_133 q133_4) q133_2 (hw _ wd_216) (ow := "java/lang/Throwable") (hw _ wd_218) (hw _ wd_217) rfl (hw _ wd_220) (hw _ wd_219) (hw _ wd_177) (hw _ wd_221) (by decide) sf_nil pd33 rfl rfl rfl (W := 0) rfl (by decide) (by decide) (k' := 14) rfl (n' := 3091) rfl (by decide) (by decide) fun vm135 T135 h135 v135 X135 r135 Q135 => ?_
      obtain ⟨rfl, rfl⟩ := Q135
      show Go _ _ _ _ _ _ _ _ _ _ [(.ref m_133)]
      refine X135.astore i54_130 rfl (Ls' := #[.val (.int p0), .val (.int p1), .val (.int p2), .val (.int p3), .val (.int (3 : Int32)), .val (.int ca), .val (.int cb), .val (.int cc), .val (.ref a120), .val (.ref x_133), .val (.ref m_133)]) rfl ?_
      refine X135.aload i54_132 rfl rfl ?_
      refine X135.nonnullY i54_134 j134_5 ?_
      refine X135.aload i54_139 rfl rfl ?_
      refine X135.iload i54_141 rfl ?_
      refine X135.iload i54_143 rfl ?_
      refine X135.iload i54_145 rfl ?_
      refine X135.iload i54_147 rfl ?_
      refine X135.callS hl (argsL := [(.int (3 : Int32)), (.int ca), (.int cb), (.int cc)]) i54_149 (c_e3 hX X135.old ca cb cc hca hcb hcc (Or.inr ⟨iw, hwi⟩)) (hw _ wd_222) (hw _ wd_223) (hw _ wd_224) (hw _ wd_225) (by decide) sf_nil pd36 rfl rfl rfl (W := 1) rfl (by decide) (by decide) (k' := 18) rfl (n' := 3183) rfl (by decide) (by decide) fun vm136 T136 h136 v136 X136 r136 Q136 => ?_
      obtain ⟨s_136, t_136, kb_136, cd_136, N_136, vs_136, rfl, q136_0, q136_1, q136_2, q136_3, q136_4, q136_5, q136_6⟩ := Q136
      have g137 := Nat.le_trans X135.n0le q136_1
      show Go _ _ _ _ _ _ _ _ _ _ [(.ref s_136), (.ref m_133)]
      have E138 := (q133_6.ext q136_0)
      have F139 := (q133_7.ext q136_0)
      have F140 := (q133_8.ext q136_0)
      have V141 := (q133_9.ext q136_0)
      refine own_eqA X136 hw (cs := ([ca, cb, cc] ++ [(32 : Int32), (109 : Int32), (117 : Int32), (115 : Int32), (116 : Int32), (32 : Int32), (98 : Int32), (101 : Int32), (32 : Int32), (97 : Int32), (98 : Int32), (111 : Int32), (118 : Int32), (101 : Int32), (32 : Int32), (122 : Int32), (101 : Int32), (114 : Int32), (111 : Int32)])) (ds := [ca, cb, cc, (32 : Int32), (109 : Int32), (117 : Int32), (115 : Int32), (116 : Int32), (32 : Int32), (98 : Int32), (101 : Int32), (32 : Int32), (97 : Int32), (98 : Int32), (111 : Int32), (118 : Int32), (101 : Int32), (32 : Int32), (122 : Int32), (101 : Int32), (114 : Int32), (111 : Int32)]) i54_152 (hw _ wd_227) (hw _ wd_228) (hw _ wd_230) (hw _ wd_229) (hw _ wd_1) E138 F139 F140 V141 (Or.inr ⟨rfl, rfl, rfl, own_firstE (hwi [(32 : Int32), (109 : Int32), (117 : Int32), (115 : Int32), (116 : Int32), (32 : Int32), (98 : Int32), (101 : Int32), (32 : Int32), (97 : Int32), (98 : Int32), (111 : Int32), (118 : Int32), (101 : Int32), (32 : Int32), (122 : Int32), (101 : Int32), (114 : Int32), (111 : Int32)])⟩) (own_chrS hca (own_chrS hcb (own_chrS hcc own_hct))) (Nat.le_of_ble_eq_true rfl) q136_2 q136_3 q136_4 q136_5 q136_6 (own_chrS hca (own_chrS hcb (own_chrS hcc own_hct))) (Nat.le_of_ble_eq_true rfl) hcs hcz rfl (W := 0) rfl (by decide) (by decide) (by decide) (by decide) fun T142 r142 X142 q142 => ?_
      obtain rfl : r142 = (1 : Int32) := q142.elim (fun g => g.1) (fun g => absurd rfl g.2)
      refine X142.ifN i54_155 (by decide) ?_
      refine X142.aload i54_158 rfl rfl ?_
      have E143 := (q133_2.ext q136_0)
      have U144 := (q133_3.ext q136_0)
      have F145 := (q133_5.ext q136_0)
      refine X142.getCause (y := (⟨"java/lang/IllegalArgumentException", "getCause", "()Ljava/lang/Throwable;"⟩ : MethodName)) i54_160 E143 U144 F145 rfl rfl (hw _ wd_237) (hw _ wd_239) (hw _ wd_238) rfl (hw _ wd_241) (hw _ wd_240) (hw _ wd_242) (hw _ wd_177) (hw _ wd_180) rfl (W := 0) rfl (by decide) (by decide) (by decide) (by decide) fun T146 X146 => ?_
      refine X146.nonnullN i54_163 ?_
      refine X146.iconst i54_166 (z := (1 : Int32)) rfl ?_
      refine X146.goto i54_167 j167_4 ?_
      exact X146.ireturn i54_171 (t := .boolean) rfl (by decide) rfl (by decide) (by decide) (fun sf hsf => rfl)
set_option maxRecDepth 65536 in
set_option maxHeartbeats 40000000 in
theorem comes_1 {Post : Tables → Env → Array Value → State → Outcome → State → Prop} (hpost : ∀ tb e args s v u, (limb_1_1.after args s (.returned v) u = true ∧ limb_1_2.after args s (.returned v) u = true ∧ True) → ReturnedEndW s (.returned v) u (Jvm.fieldLocs frame_1_writes args s ++ Jvm.arrayLocs frame_1_arrays args s ++ Jvm.staticLocs frame_1_statics s) 48 9216 → Post tb e args s (.returned v) u) :
    ArmFor flags0 classFile x code maxLocals ret World_1 tables_1 room_1 Calls_1 rest_1 Pre_1 Post := by
  intro l hfl _ _ p e ha hc hk s m args below hf hA hF happ hP
  obtain ⟨hcalls, hrest, hpre⟩ := hP
  obtain ⟨-, -, -, hnamed, -, -, -, hat⟩ := (Spec.applies_iff hf).mp happ
  obtain ⟨hg, hn⟩ := and_e (Cond.before_iff.mp (show (Jvm.Cond.and given_1 narrow_1).before args s = true from hpre))
  obtain ⟨hcnt, hg⟩ := and_e hg
  obtain ⟨ha0, hg⟩ := and_e hg
  obtain ⟨ha1, hg⟩ := and_e hg
  obtain ⟨ha2, hg⟩ := and_e hg
  obtain ⟨w0, w1, w2, w3, rfl⟩ : ∃ w0 w1 w2 w3 : Value, args = #[w0, w1, w2, w3] := by
    have hs : args.size = 4 := by simpa [Cond.value, given_1] using hcnt
    obtain ⟨L⟩ := args
    match L, hs with
    | [w0, w1, w2, w3], _ => exact ⟨w0, w1, w2, w3, rfl⟩
  have hw := fun d (hd : d ∈ tables_1) => atoms_spec (ws := Jvm.Cond.code x code maxLocals ret :: tables_1) hat d (List.mem_cons_of_mem _ hd)
  obtain ⟨hsets, hown0⟩ := atoms_of _ (rest_1_c_eq ▸ (show rest_1_c.before _ s = true from hrest))
  have hfit : Fit s := fun {y c} hc i hi => by
    obtain ⟨ha, rfl⟩ := Array.getElem?_eq_some_iff.mp hc
    have q := List.all_eq_true.mp ((Array.all_eq_true_iff_forall_mem.mp hF) _ (Array.getElem_mem ha)) i (List.mem_range.mpr hi)
    simpa [Array.getElem?_eq_getElem hi] using q
  obtain ⟨p0, e0⟩ := is_v ha0
  obtain rfl : w0 = (.int p0) := Option.some.inj e0
  obtain ⟨p1, e1⟩ := is_v ha1
  obtain rfl : w1 = (.int p1) := Option.some.inj e1
  obtain ⟨p2, e2⟩ := is_v ha2
  obtain rfl : w2 = (.int p2) := Option.some.inj e2
  obtain ⟨p3, e3⟩ := is_v hg
  obtain rfl : w3 = (.int p3) := Option.some.inj e3
  have n5 := not_v (Cond.before_iff.mp (hsets _ (List.mem_of_getElem? (i := 2) rfl)))
  obtain ⟨zc, ec⟩ := is_v (Cond.before_iff.mp (hsets _ (List.mem_of_getElem? (i := 1) rfl)))
  have hcs : Sta s s.heap "java/lang/String" "COMPACT_STRINGS" "Z" (.int zc) := Sta.start ec (Or.inl (hsets _ (List.mem_of_getElem? (i := 0) rfl)))
  have hcz : ¬ (zc = (0 : Int32)) := gotF (Cond.eq_ints ec (Term.int_eval (0))) n5
  obtain ⟨fm, efm, hfr⟩ := isR_v (Cond.before_iff.mp (hsets _ (List.mem_of_getElem? (i := 8) rfl)))
  have hfm : Sta s s.heap "jdk/internal/util/Preconditions" "SIOOBE_FORMATTER" "Ljava/util/function/BiFunction;" fm := Sta.start efm (Or.inl (hsets _ (List.mem_of_getElem? (i := 7) rfl)))
  have hst : l.stackTraces = true := by unfold Launch.stackTraces; rw [hfl]; decide
  have hKn := MethodsKnown_of_tablesKnown hcalls.2.1
  obtain ⟨us, eus⟩ := own_arrRef (hsets _ (List.mem_of_getElem? (i := 17) rfl))
  have hus : Sta s s.heap "java/lang/Throwable" "UNASSIGNED_STACK" "[Ljava/lang/StackTraceElement;" (.ref us) := Sta.start eus (Or.inl (hsets _ (List.mem_of_getElem? (i := 15) rfl)))
  obtain ⟨ss, ess⟩ := exa_v (Cond.before_iff.mp (hsets _ (List.mem_of_getElem? (i := 22) rfl)))
  have hss : Sta s s.heap "java/lang/Throwable" "SUPPRESSED_SENTINEL" "Ljava/util/List;" (.ref ss) := Sta.start ess (Or.inl (hsets _ (List.mem_of_getElem? (i := 20) rfl)))
  have had : Sta s s.heap "java/lang/StringUTF16" "$assertionsDisabled" "Z" (.int (1 : Int32)) := Sta.start (own_eqI (Cond.before_iff.mp (hsets _ (List.mem_of_getElem? (i := 32) rfl)))) (Or.inl (hsets _ (List.mem_of_getElem? (i := 31) rfl)))
  have hhi : Sta s s.heap "java/lang/StringUTF16" "HI_BYTE_SHIFT" "I" (.int (0 : Int32)) := Sta.start (own_eqI (Cond.before_iff.mp (hsets _ (List.mem_of_getElem? (i := 35) rfl)))) (Or.inl (hsets _ (List.mem_of_getElem? (i := 34) rfl)))
  have hlo : Sta s s.heap "java/lang/StringUTF16" "LO_BYTE_SHIFT" "I" (.int (8 : Int32)) := Sta.start (own_eqI (Cond.before_iff.mp (hsets _ (List.mem_of_getElem? (i := 38) rfl)))) (Or.inl (hsets _ (List.mem_of_getElem? (i := 37) rfl)))
  have hEL : EW s (_ : Array Value) own_EL := (EW.cons (hw _ wd_95) lt1_a (EW.cons (hw _ wd_226) lt1_a (EW.cons (hw _ wd_14) lt0_a EW.nil)))
  have hCH : CHv s own_EL s.vm s.heap := CHv.start hEL hcalls.2.2.1 (Cond.before_iff.mpr (not_i (nay (Cond.eq_ints ec (Term.int_eval (0))) hcz)) : Jvm.Lit.compactW.before _ s = true) (hw _ wd_15) (hw _ wd_1)
  obtain ⟨n, o, h1, h2, h3, _, L, rfl, ⟨rfl, N, -⟩, -, hq⟩ := own_law (show own_Ctx l s _ zc fm us ss from ⟨hw, hEL, hcs, hcz, hfm, hfr, hst, hKn, hus, hss, had, hhi, hlo⟩) p0 p1 p2 p3 p e ha hc hk s m _ below hf ((Spec.applies_iff_loose hf).mp happ).1 ⟨rfl, State.Warmed39.refl s, rfl, hCH, fun _ z => nomatch z⟩ (FramesKnown_of_framesKnown hcalls.1 hf)
  refine ⟨n, _, h1, h2, h3, hpost _ _ _ _ _ _ ⟨Cond.after_iff.mpr rfl, Cond.after_iff.mpr (eq_i res_at (Term.int_eval (1)) rfl), trivial⟩ ⟨hq.1.1, hq.1.2.1, hq.1.2.2.1, (hq.1.2.2.2.sift fun y hy => Or.inr (N y hy)).mono (by decide) (by decide)⟩⟩
theorem main_1_1 : Claimed_1_1 := comes_1 fun _ _ _ _ _ _ h hF => ⟨h.1, hF⟩
theorem main_1_2 : Claimed_1_2 := comes_1 fun _ _ _ _ _ _ h hF => ⟨h.2.1, hF⟩
end Jvm.Pilot.@@N@@
namespace Jvm.Pilot.@@N@@
open Jvm Jvm.ClassFile Sem Op Lib Jvm.Free Jvm.Stand Jvm.Pilot.@@N@@.Jvm.D
/-! MADE BY PROGRAM (witnessworld.py) out of the Statement's table words and the real class files: 43 classes; the members and pool entries that the words name. The judged class is class 1, her method 1. -/
namespace start1
open Jvm.ClassFile
def u (s : String) : CpInfo := .utf8 (stringToUtf16 s)
/-- a pool by its gaps: so many unusable entries, then the entry; so many at the end -/
def gap : Nat → List CpInfo → List CpInfo
  | 0, r => r
  | n + 1, r => .unusable :: gap n r
def poolList (es : List (Nat × CpInfo)) (last : Nat) : List CpInfo := es.foldr (fun e r => gap e.1 (e.2 :: r)) (gap last [])
def pool (es : List (Nat × CpInfo)) (last : Nat) : Array CpInfo := ⟨poolList es last⟩
def fileOf (pool : Array CpInfo) (this : Nat) (attrs : Array Attribute := #[]) (ms : Array MethodInfo := #[]) (fl : Nat := 33) (sup : Nat := 0) (ifs : Array Nat := #[]) (fds : Array FieldInfo := #[]) : ClassFile where
  minorVersion := 0
  majorVersion := 65
  constantPool := pool
  accessFlags := fl
  thisClass := this
  superClass := sup
  interfaces := ifs
  fields := fds
  methods := ms
  attributes := attrs
def plain (name : String) (sup : Option ClassId) : Class where
  name := name
  kind := .ordinary
  loader := none
  accessFlags := 33
  super := sup
  interfaces := #[]
  cf := none
  fields := #[]
  methods := #[]
  instanceTypes := #[]
  staticTypes := #[]
  resolved := #[]
  callSites := []
  init := .initialized
  statics := none
  mirror := none

def pool0 : Array CpInfo := pool [(5, u "<init>"), (0, u "()V"), (1, .class_ 10), (1, u "java/lang/Object")] 113

def k0c0 : Code := { maxStack := 0, maxLocals := 1, code := object_method_1_code, exceptionTable := #[], attributes := #[] }
def k0m0 : Method := { name := "<init>", desc := "()V", sig := { parameters := [], returnType := none }, accessFlags := 1, code := some k0c0 }
/-- java/lang/Object -/
def k0 : Class := { plain "java/lang/Object" none with
  accessFlags := 33
  interfaces := #[]
  cf := some (fileOf pool0 8 #[] #[{ accessFlags := 1, nameIndex := 5, descriptorIndex := 6, attributes := #[] }] 33 0 #[] #[])
  fields := #[]
  methods := #[k0m0]
  instanceTypes := #[]
  staticTypes := #[]
  resolved := Array.replicate 124 none
  statics := none }

def pool1 : Array CpInfo := pool [(2, .class_ 4), (1, u "java/lang/Object"), (0, u "<init>"), (0, u "()V"), (0, .class_ 8), (0, u "java/lang/String"), (0, .methodref 7 10), (0, .nameAndType 5 11), (0, u "([C)V"), (0, .methodref 7 13), (0, .nameAndType 14 15), (0, u "valueOf"), (0, u "(C)Ljava/lang/String;"), (0, .methodref 17 18), (0, .class_ 19), (0, .nameAndType 20 21), (0, u "com/example/yusen/yusen/figures/Checks"), (0, u "notPositive"), (0, u "(Ljava/lang/String;)Ljava/lang/IllegalArgumentException;"), (0, .methodref 23 24), (0, .class_ 25), (0, .nameAndType 26 27), (0, u "java/lang/IllegalArgumentException"), (0, u "getMessage"), (0, u "()Ljava/lang/String;"), (0, .methodref 29 30), (0, .class_ 31), (0, .nameAndType 32 33), (0, u "com/example/yusen/yusen/figures/ChecksNotPositivePinLaw"), (0, u "expected"), (0, u "(ICCC)Ljava/lang/String;"), (0, .methodref 7 35), (0, .nameAndType 36 37), (0, u "equals"), (0, u "(Ljava/lang/Object;)Z"), (0, .methodref 23 39), (0, .nameAndType 40 41), (0, u "getCause"), (0, u "()Ljava/lang/Throwable;"), (0, .string 43), (0, u " must be above zero"), (2, u "law"), (0, u "(IIII)Z")] 3

def k1m0 : Method := { name := "<init>", desc := "()V", sig := { parameters := [], returnType := none }, accessFlags := 1, code := none }
def k1c1 : Code := { maxStack := 6, maxLocals := 11, code := code, exceptionTable := #[], attributes := #[] }
def k1m1 : Method := { name := "law", desc := "(IIII)Z", sig := { parameters := [.int, .int, .int, .int], returnType := some .boolean }, accessFlags := 9, code := some k1c1 }
def k1c2 : Code := { maxStack := 6, maxLocals := 4, code := method_3_code, exceptionTable := #[], attributes := #[] }
def k1m2 : Method := { name := "expected", desc := "(ICCC)Ljava/lang/String;", sig := { parameters := [.int, .char, .char, .char], returnType := some (.object "java/lang/String") }, accessFlags := 10, code := some k1c2 }
/-- com/example/yusen/yusen/figures/ChecksNotPositivePinLaw -/
def k1 : Class := { plain "com/example/yusen/yusen/figures/ChecksNotPositivePinLaw" (some 0) with
  accessFlags := 49
  interfaces := #[]
  cf := some (fileOf pool1 29 #[] #[{ accessFlags := 1, nameIndex := 5, descriptorIndex := 6, attributes := #[] }, { accessFlags := 9, nameIndex := 46, descriptorIndex := 47, attributes := #[] }, { accessFlags := 10, nameIndex := 32, descriptorIndex := 33, attributes := #[] }] 49 2 #[] #[])
  fields := #[]
  methods := #[k1m0, k1m1, k1m2]
  instanceTypes := #[]
  staticTypes := #[]
  resolved := Array.replicate 51 none
  statics := none }

def pool2 : Array CpInfo := pool [(1, .class_ 2), (0, u "java/io/Serializable"), (0, .class_ 4), (0, u "java/lang/Object")] 2

/-- java/io/Serializable -/
def k2 : Class := { plain "java/io/Serializable" (some 0) with
  accessFlags := 1537
  interfaces := #[]
  cf := some (fileOf pool2 1 #[] #[] 1537 3 #[] #[])
  fields := #[]
  methods := #[]
  instanceTypes := #[]
  staticTypes := #[]
  resolved := Array.replicate 7 none
  statics := none }

def pool3 : Array CpInfo := pool [(1, .class_ 2), (0, u "java/lang/Comparable"), (0, .class_ 4), (0, u "java/lang/Object")] 7

/-- java/lang/Comparable -/
def k3 : Class := { plain "java/lang/Comparable" (some 0) with
  accessFlags := 1537
  interfaces := #[]
  cf := some (fileOf pool3 1 #[] #[] 1537 3 #[] #[])
  fields := #[]
  methods := #[]
  instanceTypes := #[]
  staticTypes := #[]
  resolved := Array.replicate 12 none
  statics := none }

def pool4 : Array CpInfo := pool [(2, .class_ 4), (1, u "java/lang/CharSequence"), (42, .class_ 48), (0, u "java/lang/CharSequence$1CodePointIterator"), (10, .class_ 60), (0, u "java/lang/CharSequence$1CharIterator"), (5, .class_ 67), (0, u "java/lang/Object")] 63

/-- java/lang/CharSequence -/
def k4 : Class := { plain "java/lang/CharSequence" (some 0) with
  accessFlags := 1537
  interfaces := #[]
  cf := some (fileOf pool4 2 #[.nestMembers #[47, 59]] #[] 1537 66 #[] #[])
  fields := #[]
  methods := #[]
  instanceTypes := #[]
  staticTypes := #[]
  resolved := Array.replicate 131 none
  statics := none }

def pool5 : Array CpInfo := pool [(1, .class_ 2), (0, u "java/lang/constant/Constable"), (0, .class_ 4), (0, u "java/lang/Object")] 6

/-- java/lang/constant/Constable -/
def k5 : Class := { plain "java/lang/constant/Constable" (some 0) with
  accessFlags := 1537
  interfaces := #[]
  cf := some (fileOf pool5 1 #[] #[] 1537 3 #[] #[])
  fields := #[]
  methods := #[]
  instanceTypes := #[]
  staticTypes := #[]
  resolved := Array.replicate 11 none
  statics := none }

def pool6 : Array CpInfo := pool [(1, .class_ 2), (0, u "java/lang/constant/ConstantDesc"), (0, .class_ 4), (0, u "java/lang/Object")] 32

/-- java/lang/constant/ConstantDesc -/
def k6 : Class := { plain "java/lang/constant/ConstantDesc" (some 0) with
  accessFlags := 1537
  interfaces := #[]
  cf := some (fileOf pool6 1 #[] #[] 1537 3 #[] #[])
  fields := #[]
  methods := #[]
  instanceTypes := #[]
  staticTypes := #[]
  resolved := Array.replicate 37 none
  statics := none }

def pool7 : Array CpInfo := pool [(1, .methodref 2 3), (0, .class_ 4), (0, .nameAndType 5 6), (0, u "java/lang/Object"), (0, u "<init>"), (0, u "()V"), (0, .string 8), (0, u ""), (0, .fieldref 10 11), (0, .class_ 12), (0, .nameAndType 13 14), (0, u "java/lang/String"), (0, u "value"), (0, u "[B"), (0, .fieldref 10 16), (0, .nameAndType 17 18), (0, u "coder"), (0, u "B"), (2, u "hash"), (0, u "I"), (2, u "hashIsZero"), (0, u "Z"), (0, .methodref 10 28), (0, .nameAndType 5 29), (0, u "([CIILjava/lang/Void;)V"), (6, u "checkBoundsOffCount"), (0, u "(III)I"), (0, .fieldref 10 39), (0, .nameAndType 40 26), (0, u "COMPACT_STRINGS"), (1, .class_ 44), (1, u "java/lang/StringUTF16"), (0, u "compress"), (1, .methodref 42 48), (0, .nameAndType 49 50), (0, u "coderFromArrayLen"), (0, u "([BI)B"), (2, u "toBytes"), (0, .methodref 55 56), (0, .class_ 57), (0, .nameAndType 58 59), (0, u "java/util/Arrays"), (0, u "copyOfRange"), (0, u "([BII)[B"), (46, .methodref 107 108), (0, .class_ 109), (0, .nameAndType 110 111), (0, u "java/lang/StringLatin1"), (0, u "inflate"), (0, u "([BI[BII)V"), (30, u "()Z"), (34, .methodref 42 178), (0, .nameAndType 45 179), (0, u "([CII)[B"), (13, .class_ 195), (1, u "java/lang/System"), (13, .methodref 10 210), (0, .nameAndType 5 211), (0, u "([BB)V"), (0, .methodref 193 213), (0, .nameAndType 214 215), (0, u "arraycopy"), (0, u "(Ljava/lang/Object;ILjava/lang/Object;II)V"), (118, u "()I"), (0, .methodref 10 336), (0, .nameAndType 17 337), (0, u "()B"), (2, u "()[B"), (28, u "(C)Z"), (119, .methodref 10 490), (0, .nameAndType 5 491), (0, u "(Ljava/lang/AbstractStringBuilder;Ljava/lang/Void;)V"), (1, .nameAndType 494 142), (0, u "isLatin1"), (11, .nameAndType 507 334), (0, u "length"), (24, u "getBytes"), (8, .methodref 107 542), (0, .nameAndType 543 544), (0, u "equals"), (0, u "([B[B)Z"), (4, .methodref 550 506), (0, .class_ 551), (0, u "java/lang/AbstractStringBuilder"), (0, .methodref 550 553), (0, .nameAndType 554 340), (0, u "getValue"), (18, u "(Ljava/lang/Object;)Z"), (1, .class_ 576), (0, u "java/lang/CharSequence"), (22, u "CASE_INSENSITIVE_ORDER"), (0, u "Ljava/util/Comparator;"), (181, u "valueOf"), (0, u "(C)Ljava/lang/String;"), (37, u "([BIB)V"), (188, u "([C)V"), (4, .methodref 107 1016), (0, .nameAndType 1017 369), (0, u "canEncode"), (0, .methodref 107 1019), (0, .nameAndType 53 1020), (0, u "(C)[B"), (0, .methodref 42 1019), (25, .methodref 550 493), (0, .fieldref 550 1049), (0, .nameAndType 1050 26), (0, u "maybeLatin1"), (2, .fieldref 1054 1055), (0, .class_ 1056), (0, .nameAndType 1057 1058), (0, u "jdk/internal/util/Preconditions"), (0, u "SIOOBE_FORMATTER"), (0, u "Ljava/util/function/BiFunction;"), (5, u "(IIILjava/util/function/BiFunction;)I"), (0, .methodref 1054 1066), (0, .nameAndType 1067 1064), (0, u "checkFromIndexSize"), (33, u "serialPersistentFields"), (0, u "[Ljava/io/ObjectStreamField;"), (0, .class_ 1104), (0, u "java/lang/String$CaseInsensitiveComparator"), (1, .class_ 1107), (0, u "java/io/Serializable"), (0, .class_ 1109), (0, u "java/lang/Comparable"), (0, .class_ 1111), (0, u "java/lang/constant/Constable"), (0, .class_ 1113), (0, u "java/lang/constant/ConstantDesc"), (2, u "serialVersionUID"), (0, u "J"), (3, u "REPL"), (0, u "C"), (2, u "LATIN1"), (1, u "UTF16"), (105, u "(Ljava/lang/StringBuilder;)V")] 217

def k7m0 : Method := { name := "<init>", desc := "()V", sig := { parameters := [], returnType := none }, accessFlags := 1, code := none }
def k7c1 : Code := { maxStack := 5, maxLocals := 2, code := jdk_42_method_3_code, exceptionTable := #[], attributes := #[] }
def k7m1 : Method := { name := "<init>", desc := "([C)V", sig := { parameters := [(.array .char)], returnType := none }, accessFlags := 1, code := some k7c1 }
def k7c2 : Code := { maxStack := 3, maxLocals := 2, code := jdk_42_method_53_code, exceptionTable := #[], attributes := #[] }
def k7m2 : Method := { name := "<init>", desc := "(Ljava/lang/StringBuilder;)V", sig := { parameters := [(.object "java/lang/StringBuilder")], returnType := none }, accessFlags := 1, code := some k7c2 }
def k7c3 : Code := { maxStack := 2, maxLocals := 1, code := jdk_42_method_54_code, exceptionTable := #[], attributes := #[] }
def k7m3 : Method := { name := "length", desc := "()I", sig := { parameters := [], returnType := some .int }, accessFlags := 1, code := some k7c3 }
def k7c4 : Code := { maxStack := 2, maxLocals := 3, code := jdk_42_method_66_code, exceptionTable := #[], attributes := #[] }
def k7m4 : Method := { name := "equals", desc := "(Ljava/lang/Object;)Z", sig := { parameters := [(.object "java/lang/Object")], returnType := some .boolean }, accessFlags := 1, code := some k7c4 }
def k7c5 : Code := { maxStack := 4, maxLocals := 1, code := jdk_42_method_139_code, exceptionTable := #[], attributes := #[] }
def k7m5 : Method := { name := "valueOf", desc := "(C)Ljava/lang/String;", sig := { parameters := [.char], returnType := some (.object "java/lang/String") }, accessFlags := 9, code := some k7c5 }
def k7c6 : Code := { maxStack := 5, maxLocals := 4, code := jdk_42_method_147_code, exceptionTable := #[], attributes := #[] }
def k7m6 : Method := { name := "getBytes", desc := "([BIB)V", sig := { parameters := [(.array .byte), .int, .byte], returnType := none }, accessFlags := 0, code := some k7c6 }
def k7c7 : Code := { maxStack := 4, maxLocals := 6, code := jdk_42_method_149_code, exceptionTable := #[], attributes := #[] }
def k7m7 : Method := { name := "<init>", desc := "([CIILjava/lang/Void;)V", sig := { parameters := [(.array .char), .int, .int, (.object "java/lang/Void")], returnType := none }, accessFlags := 2, code := some k7c7 }
def k7c8 : Code := { maxStack := 5, maxLocals := 5, code := jdk_42_method_150_code, exceptionTable := #[], attributes := #[] }
def k7m8 : Method := { name := "<init>", desc := "(Ljava/lang/AbstractStringBuilder;Ljava/lang/Void;)V", sig := { parameters := [(.object "java/lang/AbstractStringBuilder"), (.object "java/lang/Void")], returnType := none }, accessFlags := 0, code := some k7c8 }
def k7c9 : Code := { maxStack := 2, maxLocals := 3, code := jdk_42_method_151_code, exceptionTable := #[], attributes := #[] }
def k7m9 : Method := { name := "<init>", desc := "([BB)V", sig := { parameters := [(.array .byte), .byte], returnType := none }, accessFlags := 0, code := some k7c9 }
def k7c10 : Code := { maxStack := 1, maxLocals := 1, code := jdk_42_method_152_code, exceptionTable := #[], attributes := #[] }
def k7m10 : Method := { name := "coder", desc := "()B", sig := { parameters := [], returnType := some .byte }, accessFlags := 0, code := some k7c10 }
def k7c11 : Code := { maxStack := 4, maxLocals := 3, code := jdk_42_method_157_code, exceptionTable := #[], attributes := #[] }
def k7m11 : Method := { name := "checkBoundsOffCount", desc := "(III)I", sig := { parameters := [.int, .int, .int], returnType := some .int }, accessFlags := 8, code := some k7c11 }
/-- java/lang/String -/
def k7 : Class := { plain "java/lang/String" (some 0) with
  accessFlags := 49
  interfaces := #[2, 3, 4, 5, 6]
  cf := some (fileOf pool7 10 #[.nestMembers #[1103]] #[{ accessFlags := 1, nameIndex := 5, descriptorIndex := 6, attributes := #[] }, { accessFlags := 1, nameIndex := 5, descriptorIndex := 1010, attributes := #[] }, { accessFlags := 1, nameIndex := 5, descriptorIndex := 1233, attributes := #[] }, { accessFlags := 1, nameIndex := 507, descriptorIndex := 334, attributes := #[] }, { accessFlags := 1, nameIndex := 543, descriptorIndex := 573, attributes := #[] }, { accessFlags := 9, nameIndex := 782, descriptorIndex := 783, attributes := #[] }, { accessFlags := 0, nameIndex := 532, descriptorIndex := 821, attributes := #[] }, { accessFlags := 2, nameIndex := 5, descriptorIndex := 29, attributes := #[] }, { accessFlags := 0, nameIndex := 5, descriptorIndex := 491, attributes := #[] }, { accessFlags := 0, nameIndex := 5, descriptorIndex := 211, attributes := #[] }, { accessFlags := 0, nameIndex := 17, descriptorIndex := 337, attributes := #[] }, { accessFlags := 8, nameIndex := 36, descriptorIndex := 37, attributes := #[] }] 49 2 #[1106, 1108, 575, 1110, 1112] #[{ accessFlags := 18, nameIndex := 13, descriptorIndex := 14, attributes := #[] }, { accessFlags := 18, nameIndex := 17, descriptorIndex := 18, attributes := #[] }, { accessFlags := 2, nameIndex := 21, descriptorIndex := 22, attributes := #[] }, { accessFlags := 2, nameIndex := 25, descriptorIndex := 26, attributes := #[] }, { accessFlags := 26, nameIndex := 1116, descriptorIndex := 1117, attributes := #[] }, { accessFlags := 24, nameIndex := 40, descriptorIndex := 26, attributes := #[] }, { accessFlags := 26, nameIndex := 1101, descriptorIndex := 1102, attributes := #[] }, { accessFlags := 26, nameIndex := 1121, descriptorIndex := 1122, attributes := #[] }, { accessFlags := 25, nameIndex := 599, descriptorIndex := 600, attributes := #[] }, { accessFlags := 24, nameIndex := 1125, descriptorIndex := 18, attributes := #[] }, { accessFlags := 24, nameIndex := 1127, descriptorIndex := 18, attributes := #[] }])
  fields := #[{ name := "value", type := (.array .byte), accessFlags := 18, slot := 0, constantValue := 0 }, { name := "coder", type := .byte, accessFlags := 18, slot := 1, constantValue := 0 }, { name := "hash", type := .int, accessFlags := 2, slot := 2, constantValue := 0 }, { name := "hashIsZero", type := .boolean, accessFlags := 2, slot := 3, constantValue := 0 }, { name := "serialVersionUID", type := .long, accessFlags := 26, slot := 0, constantValue := 0 }, { name := "COMPACT_STRINGS", type := .boolean, accessFlags := 24, slot := 1, constantValue := 0 }, { name := "serialPersistentFields", type := (.array (.object "java/io/ObjectStreamField")), accessFlags := 26, slot := 2, constantValue := 0 }, { name := "REPL", type := .char, accessFlags := 26, slot := 3, constantValue := 0 }, { name := "CASE_INSENSITIVE_ORDER", type := (.object "java/util/Comparator"), accessFlags := 25, slot := 4, constantValue := 0 }, { name := "LATIN1", type := .byte, accessFlags := 24, slot := 5, constantValue := 0 }, { name := "UTF16", type := .byte, accessFlags := 24, slot := 6, constantValue := 0 }]
  methods := #[k7m0, k7m1, k7m2, k7m3, k7m4, k7m5, k7m6, k7m7, k7m8, k7m9, k7m10, k7m11]
  instanceTypes := #[(.array .byte), .byte, .int, .boolean]
  staticTypes := #[.long, .boolean, (.array (.object "java/io/ObjectStreamField")), .char, (.object "java/util/Comparator"), .byte, .byte]
  resolved := Array.replicate 1451 none
  statics := some 0 }

def pool8 : Array CpInfo := pool [(2, .class_ 4), (0, .nameAndType 5 6), (0, u "java/lang/Object"), (0, u "<init>"), (0, u "()V"), (1, .class_ 10), (1, u "com/example/yusen/yusen/figures/Checks"), (0, u "notPositive"), (0, u "(Ljava/lang/String;)Ljava/lang/IllegalArgumentException;"), (0, .class_ 14), (0, u "java/lang/IllegalArgumentException"), (0, .class_ 16), (0, u "java/lang/StringBuilder"), (0, .methodref 15 3), (0, .methodref 15 19), (0, .nameAndType 20 21), (0, u "append"), (0, u "(Ljava/lang/String;)Ljava/lang/StringBuilder;"), (0, .string 23), (0, u " must be above zero"), (0, .methodref 15 25), (0, .nameAndType 26 27), (0, u "toString"), (0, u "()Ljava/lang/String;"), (0, .methodref 13 29), (0, .nameAndType 5 30), (0, u "(Ljava/lang/String;)V")] 7

def k8m0 : Method := { name := "<init>", desc := "()V", sig := { parameters := [], returnType := none }, accessFlags := 2, code := none }
def k8c1 : Code := { maxStack := 4, maxLocals := 1, code := prog_15_method_3_code, exceptionTable := #[], attributes := #[] }
def k8m1 : Method := { name := "notPositive", desc := "(Ljava/lang/String;)Ljava/lang/IllegalArgumentException;", sig := { parameters := [(.object "java/lang/String")], returnType := some (.object "java/lang/IllegalArgumentException") }, accessFlags := 9, code := some k8c1 }
/-- com/example/yusen/yusen/figures/Checks -/
def k8 : Class := { plain "com/example/yusen/yusen/figures/Checks" (some 0) with
  accessFlags := 33
  interfaces := #[]
  cf := some (fileOf pool8 8 #[] #[{ accessFlags := 2, nameIndex := 5, descriptorIndex := 6, attributes := #[] }, { accessFlags := 9, nameIndex := 11, descriptorIndex := 12, attributes := #[] }] 33 2 #[] #[])
  fields := #[]
  methods := #[k8m0, k8m1]
  instanceTypes := #[]
  staticTypes := #[]
  resolved := Array.replicate 38 none
  statics := none }

def pool9 : Array CpInfo := pool [(1, .methodref 2 3), (0, .class_ 4), (0, .nameAndType 5 6), (0, u "java/lang/Object"), (0, u "<init>"), (0, u "()V"), (0, .fieldref 8 9), (0, .class_ 10), (0, .nameAndType 11 12), (0, u "java/lang/Throwable"), (0, u "cause"), (0, u "Ljava/lang/Throwable;"), (0, .fieldref 8 14), (0, .nameAndType 15 16), (0, u "UNASSIGNED_STACK"), (0, u "[Ljava/lang/StackTraceElement;"), (0, .fieldref 8 18), (0, .nameAndType 19 16), (0, u "stackTrace"), (0, .fieldref 8 21), (0, .nameAndType 22 23), (0, u "SUPPRESSED_SENTINEL"), (0, u "Ljava/util/List;"), (0, .fieldref 8 25), (0, .nameAndType 26 23), (0, u "suppressedExceptions"), (0, .methodref 8 28), (0, .nameAndType 29 30), (0, u "fillInStackTrace"), (0, u "()Ljava/lang/Throwable;"), (0, .fieldref 8 32), (0, .nameAndType 33 34), (0, u "detailMessage"), (0, u "Ljava/lang/String;"), (3, u "()Ljava/lang/String;"), (2, u "getMessage"), (51, .class_ 94), (0, u "java/lang/Throwable$WrappedPrintStream"), (6, .class_ 103), (1, u "java/lang/Throwable$PrintStreamOrWriter"), (54, u "getCause"), (6, u "$assertionsDisabled"), (0, u "Z"), (26, .class_ 194), (0, u "java/lang/Throwable$WrappedPrintWriter"), (3, .fieldref 8 199), (0, .nameAndType 200 201), (0, u "backtrace"), (0, u "Ljava/lang/Object;"), (0, .methodref 8 203), (0, .nameAndType 29 204), (0, u "(I)Ljava/lang/Throwable;"), (6, u "depth"), (0, u "I"), (10, u "(Ljava/lang/String;)V"), (45, .class_ 271), (1, u "java/lang/Throwable$SentinelHolder"), (32, u "EMPTY_THROWABLE_ARRAY"), (0, u "[Ljava/lang/Throwable;"), (12, .class_ 319), (0, u "java/io/Serializable"), (0, u "serialVersionUID"), (0, u "J"), (5, u "NULL_CAUSE_MESSAGE"), (0, u "SELF_SUPPRESSION_MESSAGE"), (0, u "CAUSE_CAPTION"), (0, u "SUPPRESSED_CAPTION")] 73

def k9c0 : Code := { maxStack := 2, maxLocals := 1, code := jdk_78_method_1_code, exceptionTable := #[], attributes := #[] }
def k9m0 : Method := { name := "<init>", desc := "()V", sig := { parameters := [], returnType := none }, accessFlags := 1, code := some k9c0 }
def k9c1 : Code := { maxStack := 2, maxLocals := 2, code := jdk_78_method_2_code, exceptionTable := #[], attributes := #[] }
def k9m1 : Method := { name := "<init>", desc := "(Ljava/lang/String;)V", sig := { parameters := [(.object "java/lang/String")], returnType := none }, accessFlags := 1, code := some k9c1 }
def k9c2 : Code := { maxStack := 1, maxLocals := 1, code := jdk_78_method_6_code, exceptionTable := #[], attributes := #[] }
def k9m2 : Method := { name := "getMessage", desc := "()Ljava/lang/String;", sig := { parameters := [], returnType := some (.object "java/lang/String") }, accessFlags := 1, code := some k9c2 }
def k9c3 : Code := { maxStack := 2, maxLocals := 1, code := ⟨#[0x2a, 0xb4, 0x00, 0x07, 0x2a, 0xa6, 0x00, 0x07, 0x01, 0xa7, 0x00, 0x07, 0x2a, 0xb4, 0x00, 0x07, 0xb0]⟩, exceptionTable := #[], attributes := #[] }
def k9m3 : Method := { name := "getCause", desc := "()Ljava/lang/Throwable;", sig := { parameters := [], returnType := some (.object "java/lang/Throwable") }, accessFlags := 33, code := some k9c3 }
def k9c4 : Code := { maxStack := 2, maxLocals := 1, code := ⟨#[0x2a, 0xb4, 0x00, 0x11, 0xc7, 0x00, 0x0a, 0x2a, 0xb4, 0x00, 0xc6, 0xc6, 0x00, 0x10, 0x2a, 0x03, 0xb6, 0x00, 0xca, 0x57, 0x2a, 0xb2, 0x00, 0x0d, 0xb5, 0x00, 0x11, 0x2a, 0xb0]⟩, exceptionTable := #[], attributes := #[] }
def k9m4 : Method := { name := "fillInStackTrace", desc := "()Ljava/lang/Throwable;", sig := { parameters := [], returnType := some (.object "java/lang/Throwable") }, accessFlags := 33, code := some k9c4 }
def k9m5 : Method := { name := "fillInStackTrace", desc := "(I)Ljava/lang/Throwable;", sig := { parameters := [.int], returnType := some (.object "java/lang/Throwable") }, accessFlags := 258, code := none }
/-- java/lang/Throwable -/
def k9 : Class := { plain "java/lang/Throwable" (some 0) with
  accessFlags := 33
  interfaces := #[2]
  cf := some (fileOf pool9 8 #[.nestMembers #[193, 93, 101, 269]] #[{ accessFlags := 1, nameIndex := 5, descriptorIndex := 6, attributes := #[] }, { accessFlags := 1, nameIndex := 5, descriptorIndex := 223, attributes := #[] }, { accessFlags := 1, nameIndex := 41, descriptorIndex := 38, attributes := #[] }, { accessFlags := 33, nameIndex := 158, descriptorIndex := 30, attributes := #[] }, { accessFlags := 33, nameIndex := 29, descriptorIndex := 30, attributes := #[] }, { accessFlags := 258, nameIndex := 29, descriptorIndex := 204, attributes := #[] }] 33 2 #[318] #[{ accessFlags := 26, nameIndex := 320, descriptorIndex := 321, attributes := #[] }, { accessFlags := 130, nameIndex := 200, descriptorIndex := 201, attributes := #[] }, { accessFlags := 2, nameIndex := 33, descriptorIndex := 34, attributes := #[] }, { accessFlags := 26, nameIndex := 15, descriptorIndex := 16, attributes := #[] }, { accessFlags := 2, nameIndex := 11, descriptorIndex := 12, attributes := #[] }, { accessFlags := 2, nameIndex := 19, descriptorIndex := 16, attributes := #[] }, { accessFlags := 130, nameIndex := 211, descriptorIndex := 212, attributes := #[] }, { accessFlags := 26, nameIndex := 22, descriptorIndex := 23, attributes := #[] }, { accessFlags := 2, nameIndex := 26, descriptorIndex := 23, attributes := #[] }, { accessFlags := 26, nameIndex := 327, descriptorIndex := 34, attributes := #[] }, { accessFlags := 26, nameIndex := 328, descriptorIndex := 34, attributes := #[] }, { accessFlags := 26, nameIndex := 329, descriptorIndex := 34, attributes := #[] }, { accessFlags := 26, nameIndex := 330, descriptorIndex := 34, attributes := #[] }, { accessFlags := 26, nameIndex := 304, descriptorIndex := 305, attributes := #[] }, { accessFlags := 4120, nameIndex := 165, descriptorIndex := 166, attributes := #[] }])
  fields := #[{ name := "serialVersionUID", type := .long, accessFlags := 26, slot := 0, constantValue := 0 }, { name := "backtrace", type := (.object "java/lang/Object"), accessFlags := 130, slot := 0, constantValue := 0 }, { name := "detailMessage", type := (.object "java/lang/String"), accessFlags := 2, slot := 1, constantValue := 0 }, { name := "UNASSIGNED_STACK", type := (.array (.object "java/lang/StackTraceElement")), accessFlags := 26, slot := 1, constantValue := 0 }, { name := "cause", type := (.object "java/lang/Throwable"), accessFlags := 2, slot := 2, constantValue := 0 }, { name := "stackTrace", type := (.array (.object "java/lang/StackTraceElement")), accessFlags := 2, slot := 3, constantValue := 0 }, { name := "depth", type := .int, accessFlags := 130, slot := 4, constantValue := 0 }, { name := "SUPPRESSED_SENTINEL", type := (.object "java/util/List"), accessFlags := 26, slot := 2, constantValue := 0 }, { name := "suppressedExceptions", type := (.object "java/util/List"), accessFlags := 2, slot := 5, constantValue := 0 }, { name := "NULL_CAUSE_MESSAGE", type := (.object "java/lang/String"), accessFlags := 26, slot := 3, constantValue := 0 }, { name := "SELF_SUPPRESSION_MESSAGE", type := (.object "java/lang/String"), accessFlags := 26, slot := 4, constantValue := 0 }, { name := "CAUSE_CAPTION", type := (.object "java/lang/String"), accessFlags := 26, slot := 5, constantValue := 0 }, { name := "SUPPRESSED_CAPTION", type := (.object "java/lang/String"), accessFlags := 26, slot := 6, constantValue := 0 }, { name := "EMPTY_THROWABLE_ARRAY", type := (.array (.object "java/lang/Throwable")), accessFlags := 26, slot := 7, constantValue := 0 }, { name := "$assertionsDisabled", type := .boolean, accessFlags := 4120, slot := 8, constantValue := 0 }]
  methods := #[k9m0, k9m1, k9m2, k9m3, k9m4, k9m5]
  instanceTypes := #[(.object "java/lang/Object"), (.object "java/lang/String"), (.object "java/lang/Throwable"), (.array (.object "java/lang/StackTraceElement")), .int, (.object "java/util/List")]
  staticTypes := #[.long, (.array (.object "java/lang/StackTraceElement")), (.object "java/util/List"), (.object "java/lang/String"), (.object "java/lang/String"), (.object "java/lang/String"), (.object "java/lang/String"), (.array (.object "java/lang/Throwable")), .boolean]
  resolved := Array.replicate 404 none
  statics := some 1 }

def pool10 : Array CpInfo := pool [(2, .class_ 4), (1, u "java/lang/Throwable"), (0, u "<init>"), (0, u "()V"), (0, .methodref 2 8), (0, .nameAndType 5 9), (0, u "(Ljava/lang/String;)V"), (9, .class_ 20), (0, u "java/lang/Exception"), (0, u "serialVersionUID"), (0, u "J")] 17

def k10m0 : Method := { name := "<init>", desc := "()V", sig := { parameters := [], returnType := none }, accessFlags := 1, code := none }
def k10c1 : Code := { maxStack := 2, maxLocals := 2, code := jdk_59_method_2_code, exceptionTable := #[], attributes := #[] }
def k10m1 : Method := { name := "<init>", desc := "(Ljava/lang/String;)V", sig := { parameters := [(.object "java/lang/String")], returnType := none }, accessFlags := 1, code := some k10c1 }
/-- java/lang/Exception -/
def k10 : Class := { plain "java/lang/Exception" (some 9) with
  accessFlags := 33
  interfaces := #[]
  cf := some (fileOf pool10 19 #[] #[{ accessFlags := 1, nameIndex := 5, descriptorIndex := 6, attributes := #[] }, { accessFlags := 1, nameIndex := 5, descriptorIndex := 9, attributes := #[] }] 33 2 #[] #[{ accessFlags := 24, nameIndex := 21, descriptorIndex := 22, attributes := #[] }])
  fields := #[{ name := "serialVersionUID", type := .long, accessFlags := 24, slot := 0, constantValue := 0 }]
  methods := #[k10m0, k10m1]
  instanceTypes := #[(.object "java/lang/Object"), (.object "java/lang/String"), (.object "java/lang/Throwable"), (.array (.object "java/lang/StackTraceElement")), .int, (.object "java/util/List")]
  staticTypes := #[.long]
  resolved := Array.replicate 40 none
  statics := none }

def pool11 : Array CpInfo := pool [(2, .class_ 4), (1, u "java/lang/Exception"), (0, u "<init>"), (0, u "()V"), (0, .methodref 2 8), (0, .nameAndType 5 9), (0, u "(Ljava/lang/String;)V"), (9, .class_ 20), (0, u "java/lang/RuntimeException"), (0, u "serialVersionUID"), (0, u "J")] 17

def k11m0 : Method := { name := "<init>", desc := "()V", sig := { parameters := [], returnType := none }, accessFlags := 1, code := none }
def k11c1 : Code := { maxStack := 2, maxLocals := 2, code := jdk_58_method_2_code, exceptionTable := #[], attributes := #[] }
def k11m1 : Method := { name := "<init>", desc := "(Ljava/lang/String;)V", sig := { parameters := [(.object "java/lang/String")], returnType := none }, accessFlags := 1, code := some k11c1 }
/-- java/lang/RuntimeException -/
def k11 : Class := { plain "java/lang/RuntimeException" (some 10) with
  accessFlags := 33
  interfaces := #[]
  cf := some (fileOf pool11 19 #[] #[{ accessFlags := 1, nameIndex := 5, descriptorIndex := 6, attributes := #[] }, { accessFlags := 1, nameIndex := 5, descriptorIndex := 9, attributes := #[] }] 33 2 #[] #[{ accessFlags := 24, nameIndex := 21, descriptorIndex := 22, attributes := #[] }])
  fields := #[{ name := "serialVersionUID", type := .long, accessFlags := 24, slot := 0, constantValue := 0 }]
  methods := #[k11m0, k11m1]
  instanceTypes := #[(.object "java/lang/Object"), (.object "java/lang/String"), (.object "java/lang/Throwable"), (.array (.object "java/lang/StackTraceElement")), .int, (.object "java/util/List")]
  staticTypes := #[.long]
  resolved := Array.replicate 40 none
  statics := none }

def pool12 : Array CpInfo := pool [(2, .class_ 4), (1, u "java/lang/RuntimeException"), (0, u "<init>"), (0, u "()V"), (0, .methodref 2 8), (0, .nameAndType 5 9), (0, u "(Ljava/lang/String;)V"), (6, .class_ 17), (0, u "java/lang/IllegalArgumentException"), (0, u "serialVersionUID"), (0, u "J")] 15

def k12m0 : Method := { name := "<init>", desc := "()V", sig := { parameters := [], returnType := none }, accessFlags := 1, code := none }
def k12c1 : Code := { maxStack := 2, maxLocals := 2, code := jdk_57_method_2_code, exceptionTable := #[], attributes := #[] }
def k12m1 : Method := { name := "<init>", desc := "(Ljava/lang/String;)V", sig := { parameters := [(.object "java/lang/String")], returnType := none }, accessFlags := 1, code := some k12c1 }
/-- java/lang/IllegalArgumentException -/
def k12 : Class := { plain "java/lang/IllegalArgumentException" (some 11) with
  accessFlags := 33
  interfaces := #[]
  cf := some (fileOf pool12 16 #[] #[{ accessFlags := 1, nameIndex := 5, descriptorIndex := 6, attributes := #[] }, { accessFlags := 1, nameIndex := 5, descriptorIndex := 9, attributes := #[] }] 33 2 #[] #[{ accessFlags := 26, nameIndex := 18, descriptorIndex := 19, attributes := #[] }])
  fields := #[{ name := "serialVersionUID", type := .long, accessFlags := 26, slot := 0, constantValue := 0 }]
  methods := #[k12m0, k12m1]
  instanceTypes := #[(.object "java/lang/Object"), (.object "java/lang/String"), (.object "java/lang/Throwable"), (.array (.object "java/lang/StackTraceElement")), .int, (.object "java/util/List")]
  staticTypes := #[.long]
  resolved := Array.replicate 35 none
  statics := none }

def pool13 : Array CpInfo := pool [(1, .class_ 2), (0, u "java/lang/Appendable"), (0, .class_ 4), (0, u "java/lang/Object")] 9

/-- java/lang/Appendable -/
def k13 : Class := { plain "java/lang/Appendable" (some 0) with
  accessFlags := 1537
  interfaces := #[]
  cf := some (fileOf pool13 1 #[] #[] 1537 3 #[] #[])
  fields := #[]
  methods := #[]
  instanceTypes := #[]
  staticTypes := #[]
  resolved := Array.replicate 14 none
  statics := none }

def pool14 : Array CpInfo := pool [(1, .class_ 2), (0, u "java/lang/String"), (0, .methodref 4 5), (0, .class_ 6), (0, .nameAndType 7 8), (0, u "java/lang/Object"), (0, u "<init>"), (0, u "()V"), (1, .class_ 12), (1, u "java/lang/AbstractStringBuilder"), (0, u "EMPTYVALUE"), (0, u "[B"), (0, .fieldref 10 16), (0, .nameAndType 17 14), (0, u "value"), (0, .fieldref 1 19), (0, .nameAndType 20 21), (0, u "COMPACT_STRINGS"), (0, u "Z"), (0, .fieldref 10 23), (0, .nameAndType 24 25), (0, u "coder"), (0, u "B"), (0, .methodref 27 28), (0, .class_ 29), (0, .nameAndType 30 31), (0, u "java/lang/StringUTF16"), (0, u "newBytesFor"), (0, u "(I)[B"), (0, .methodref 1 33), (0, .nameAndType 34 35), (0, u "length"), (0, u "()I"), (3, .integer 2147483647), (0, .methodref 1 41), (0, .nameAndType 24 42), (0, u "()B"), (2, u "append"), (0, u "(Ljava/lang/String;)Ljava/lang/AbstractStringBuilder;"), (1, .class_ 49), (0, u "java/lang/CharSequence"), (19, u "(Ljava/lang/String;)V"), (5, u "maybeLatin1"), (3, .fieldref 10 80), (0, .nameAndType 81 82), (0, u "count"), (0, u "I"), (0, .methodref 10 84), (0, .nameAndType 85 86), (0, u "isLatin1"), (0, u "()Z"), (1, .class_ 90), (1, u "java/lang/StringLatin1"), (9, .methodref 10 101), (0, .nameAndType 102 103), (0, u "ensureCapacityInternal"), (0, u "(I)V"), (0, .methodref 10 105), (0, .nameAndType 106 107), (0, u "newCapacity"), (0, u "(I)I"), (0, .methodref 109 110), (0, .class_ 111), (0, .nameAndType 112 113), (0, u "java/util/Arrays"), (0, u "copyOf"), (0, u "([BI)[B"), (0, .methodref 115 116), (0, .class_ 117), (0, .nameAndType 118 119), (0, u "jdk/internal/util/ArraysSupport"), (0, u "newLength"), (0, u "(III)I"), (5, .methodref 88 126), (0, .nameAndType 127 128), (0, u "inflate"), (0, u "([BI[BII)V"), (66, .methodref 10 196), (0, .nameAndType 127 8), (11, .methodref 10 209), (0, .nameAndType 210 211), (0, u "putStringAt"), (0, u "(ILjava/lang/String;)V"), (5, u "inflateIfNeededFor"), (2, .nameAndType 221 222), (0, u "getBytes"), (0, u "([BIB)V"), (174, .methodref 10 398), (0, .nameAndType 217 69), (0, .methodref 1 220), (3, u "()[B"), (40, .class_ 445), (0, u "java/lang/Appendable"), (106, u "getValue")] 56

def k14m0 : Method := { name := "<init>", desc := "()V", sig := { parameters := [], returnType := none }, accessFlags := 0, code := none }
def k14c1 : Code := { maxStack := 2, maxLocals := 2, code := jdk_68_method_2_code, exceptionTable := #[], attributes := #[] }
def k14m1 : Method := { name := "<init>", desc := "(I)V", sig := { parameters := [.int], returnType := none }, accessFlags := 0, code := some k14c1 }
def k14c2 : Code := { maxStack := 1, maxLocals := 1, code := jdk_68_method_6_code, exceptionTable := #[], attributes := #[] }
def k14m2 : Method := { name := "length", desc := "()I", sig := { parameters := [], returnType := some .int }, accessFlags := 1, code := some k14c2 }
def k14c3 : Code := { maxStack := 4, maxLocals := 3, code := jdk_68_method_9_code, exceptionTable := #[], attributes := #[] }
def k14m3 : Method := { name := "ensureCapacityInternal", desc := "(I)V", sig := { parameters := [.int], returnType := none }, accessFlags := 2, code := some k14c3 }
def k14c4 : Code := { maxStack := 5, maxLocals := 6, code := jdk_68_method_10_code, exceptionTable := #[], attributes := #[] }
def k14m4 : Method := { name := "newCapacity", desc := "(I)I", sig := { parameters := [.int], returnType := some .int }, accessFlags := 2, code := some k14c4 }
def k14c5 : Code := { maxStack := 5, maxLocals := 2, code := jdk_68_method_11_code, exceptionTable := #[], attributes := #[] }
def k14m5 : Method := { name := "inflate", desc := "()V", sig := { parameters := [], returnType := none }, accessFlags := 2, code := some k14c5 }
def k14c6 : Code := { maxStack := 3, maxLocals := 3, code := jdk_68_method_22_code, exceptionTable := #[], attributes := #[] }
def k14m6 : Method := { name := "append", desc := "(Ljava/lang/String;)Ljava/lang/AbstractStringBuilder;", sig := { parameters := [(.object "java/lang/String")], returnType := some (.object "java/lang/AbstractStringBuilder") }, accessFlags := 1, code := some k14c6 }
def k14c7 : Code := { maxStack := 1, maxLocals := 1, code := jdk_68_method_64_code, exceptionTable := #[], attributes := #[] }
def k14m7 : Method := { name := "getValue", desc := "()[B", sig := { parameters := [], returnType := some (.array .byte) }, accessFlags := 16, code := some k14c7 }
def k14c8 : Code := { maxStack := 1, maxLocals := 1, code := jdk_68_method_68_code, exceptionTable := #[], attributes := #[] }
def k14m8 : Method := { name := "isLatin1", desc := "()Z", sig := { parameters := [], returnType := some .boolean }, accessFlags := 16, code := some k14c8 }
def k14c9 : Code := { maxStack := 2, maxLocals := 2, code := jdk_68_method_71_code, exceptionTable := #[], attributes := #[] }
def k14m9 : Method := { name := "inflateIfNeededFor", desc := "(Ljava/lang/String;)V", sig := { parameters := [(.object "java/lang/String")], returnType := none }, accessFlags := 2, code := some k14c9 }
def k14c10 : Code := { maxStack := 4, maxLocals := 3, code := jdk_68_method_73_code, exceptionTable := #[], attributes := #[] }
def k14m10 : Method := { name := "putStringAt", desc := "(ILjava/lang/String;)V", sig := { parameters := [.int, (.object "java/lang/String")], returnType := none }, accessFlags := 2, code := some k14c10 }
/-- java/lang/AbstractStringBuilder -/
def k14 : Class := { plain "java/lang/AbstractStringBuilder" (some 0) with
  accessFlags := 1056
  interfaces := #[13, 4]
  cf := some (fileOf pool14 10 #[] #[{ accessFlags := 0, nameIndex := 7, descriptorIndex := 8, attributes := #[] }, { accessFlags := 0, nameIndex := 7, descriptorIndex := 103, attributes := #[] }, { accessFlags := 1, nameIndex := 34, descriptorIndex := 35, attributes := #[] }, { accessFlags := 2, nameIndex := 102, descriptorIndex := 103, attributes := #[] }, { accessFlags := 2, nameIndex := 106, descriptorIndex := 107, attributes := #[] }, { accessFlags := 2, nameIndex := 127, descriptorIndex := 8, attributes := #[] }, { accessFlags := 1, nameIndex := 45, descriptorIndex := 46, attributes := #[] }, { accessFlags := 16, nameIndex := 552, descriptorIndex := 403, attributes := #[] }, { accessFlags := 16, nameIndex := 85, descriptorIndex := 86, attributes := #[] }, { accessFlags := 2, nameIndex := 217, descriptorIndex := 69, attributes := #[] }, { accessFlags := 2, nameIndex := 210, descriptorIndex := 211, attributes := #[] }] 1056 4 #[444, 48] #[{ accessFlags := 0, nameIndex := 17, descriptorIndex := 14, attributes := #[] }, { accessFlags := 0, nameIndex := 24, descriptorIndex := 25, attributes := #[] }, { accessFlags := 0, nameIndex := 75, descriptorIndex := 21, attributes := #[] }, { accessFlags := 0, nameIndex := 81, descriptorIndex := 82, attributes := #[] }, { accessFlags := 26, nameIndex := 13, descriptorIndex := 14, attributes := #[] }])
  fields := #[{ name := "value", type := (.array .byte), accessFlags := 0, slot := 0, constantValue := 0 }, { name := "coder", type := .byte, accessFlags := 0, slot := 1, constantValue := 0 }, { name := "maybeLatin1", type := .boolean, accessFlags := 0, slot := 2, constantValue := 0 }, { name := "count", type := .int, accessFlags := 0, slot := 3, constantValue := 0 }, { name := "EMPTYVALUE", type := (.array .byte), accessFlags := 26, slot := 0, constantValue := 0 }]
  methods := #[k14m0, k14m1, k14m2, k14m3, k14m4, k14m5, k14m6, k14m7, k14m8, k14m9, k14m10]
  instanceTypes := #[(.array .byte), .byte, .boolean, .int]
  staticTypes := #[(.array .byte)]
  resolved := Array.replicate 609 none
  statics := none }

def pool15 : Array CpInfo := pool [(1, .methodref 2 3), (0, .class_ 4), (0, .nameAndType 5 6), (0, u "java/lang/AbstractStringBuilder"), (0, u "<init>"), (0, u "(I)V"), (11, .class_ 20), (1, u "java/lang/String"), (3, .class_ 26), (1, u "java/lang/StringBuilder"), (0, u "append"), (0, u "(Ljava/lang/String;)Ljava/lang/StringBuilder;"), (0, .methodref 2 30), (0, .nameAndType 27 31), (0, u "(Ljava/lang/String;)Ljava/lang/AbstractStringBuilder;"), (105, .methodref 18 138), (0, .nameAndType 5 139), (0, u "(Ljava/lang/StringBuilder;)V"), (5, u "()V"), (10, u "()I"), (186, .methodref 2 344), (0, .nameAndType 345 156), (0, u "length"), (3, .class_ 350), (0, u "java/lang/Appendable"), (0, .class_ 352), (0, u "java/io/Serializable"), (0, .class_ 354), (0, u "java/lang/Comparable"), (0, .class_ 356), (0, u "java/lang/CharSequence"), (0, u "serialVersionUID"), (0, u "J"), (40, u "toString"), (0, u "()Ljava/lang/String;")] 21

def k15c0 : Code := { maxStack := 2, maxLocals := 1, code := jdk_67_method_1_code, exceptionTable := #[], attributes := #[] }
def k15m0 : Method := { name := "<init>", desc := "()V", sig := { parameters := [], returnType := none }, accessFlags := 1, code := some k15c0 }
def k15c1 : Code := { maxStack := 2, maxLocals := 2, code := jdk_67_method_7_code, exceptionTable := #[], attributes := #[] }
def k15m1 : Method := { name := "append", desc := "(Ljava/lang/String;)Ljava/lang/StringBuilder;", sig := { parameters := [(.object "java/lang/String")], returnType := some (.object "java/lang/StringBuilder") }, accessFlags := 1, code := some k15c1 }
def k15c2 : Code := { maxStack := 3, maxLocals := 1, code := jdk_67_method_42_code, exceptionTable := #[], attributes := #[] }
def k15m2 : Method := { name := "toString", desc := "()Ljava/lang/String;", sig := { parameters := [], returnType := some (.object "java/lang/String") }, accessFlags := 1, code := some k15c2 }
def k15c3 : Code := { maxStack := 1, maxLocals := 1, code := jdk_67_method_93_code, exceptionTable := #[], attributes := #[] }
def k15m3 : Method := { name := "length", desc := "()I", sig := { parameters := [], returnType := some .int }, accessFlags := 4161, code := some k15c3 }
/-- java/lang/StringBuilder -/
def k15 : Class := { plain "java/lang/StringBuilder" (some 14) with
  accessFlags := 49
  interfaces := #[13, 2, 3, 4]
  cf := some (fileOf pool15 24 #[] #[{ accessFlags := 1, nameIndex := 5, descriptorIndex := 145, attributes := #[] }, { accessFlags := 1, nameIndex := 27, descriptorIndex := 28, attributes := #[] }, { accessFlags := 1, nameIndex := 399, descriptorIndex := 400, attributes := #[] }, { accessFlags := 4161, nameIndex := 345, descriptorIndex := 156, attributes := #[] }] 49 2 #[349, 351, 353, 355] #[{ accessFlags := 24, nameIndex := 357, descriptorIndex := 358, attributes := #[] }])
  fields := #[{ name := "serialVersionUID", type := .long, accessFlags := 24, slot := 0, constantValue := 0 }]
  methods := #[k15m0, k15m1, k15m2, k15m3]
  instanceTypes := #[(.array .byte), .byte, .boolean, .int]
  staticTypes := #[.long]
  resolved := Array.replicate 422 none
  statics := none }

def pool16 : Array CpInfo := pool [(2, .class_ 4), (1, u "java/lang/Object"), (0, u "<init>"), (0, u "()V"), (1, .class_ 10), (1, u "java/lang/System"), (0, u "allowSecurityManager"), (0, u "I"), (16, u "cons"), (0, u "Ljava/io/Console;"), (77, .class_ 110), (1, u "java/lang/System$CallersHolder"), (43, u "initialErrStream"), (0, u "Ljava/io/PrintStream;"), (19, u "security"), (0, u "Ljava/lang/SecurityManager;"), (31, .class_ 209), (0, u "java/lang/System$1"), (7, u "props"), (0, u "Ljava/util/Properties;"), (2, u "lineSeparator"), (0, u "Ljava/lang/String;"), (96, .class_ 321), (1, u "java/lang/System$LoggerFinder"), (5, .class_ 328), (0, u "java/lang/System$Logger"), (67, u "err"), (2, u "out"), (91, u "notSupportedJnuEncoding"), (15, u "in"), (17, u "initialIn"), (0, u "Ljava/io/InputStream;"), (35, u "bootLayer"), (0, u "Ljava/lang/ModuleLayer;"), (99, .class_ 664), (0, u "java/lang/System$2"), (9, u "NEVER"), (2, u "MAYBE"), (49, u "arraycopy"), (0, u "(Ljava/lang/Object;ILjava/lang/Object;II)V"), (72, .class_ 802), (0, u "java/lang/System$Logger$Level")] 31

def k16m0 : Method := { name := "<init>", desc := "()V", sig := { parameters := [], returnType := none }, accessFlags := 2, code := none }
def k16m1 : Method := { name := "arraycopy", desc := "(Ljava/lang/Object;ILjava/lang/Object;II)V", sig := { parameters := [(.object "java/lang/Object"), .int, (.object "java/lang/Object"), .int, .int], returnType := none }, accessFlags := 265, code := none }
/-- java/lang/System -/
def k16 : Class := { plain "java/lang/System" (some 0) with
  accessFlags := 49
  interfaces := #[]
  cf := some (fileOf pool16 8 #[.nestMembers #[319, 327, 801, 108, 663, 208]] #[{ accessFlags := 2, nameIndex := 5, descriptorIndex := 6, attributes := #[] }, { accessFlags := 265, nameIndex := 727, descriptorIndex := 728, attributes := #[] }] 49 2 #[] #[{ accessFlags := 25, nameIndex := 507, descriptorIndex := 526, attributes := #[] }, { accessFlags := 25, nameIndex := 399, descriptorIndex := 155, attributes := #[] }, { accessFlags := 25, nameIndex := 396, descriptorIndex := 155, attributes := #[] }, { accessFlags := 10, nameIndex := 525, descriptorIndex := 526, attributes := #[] }, { accessFlags := 26, nameIndex := 674, descriptorIndex := 12, attributes := #[] }, { accessFlags := 26, nameIndex := 677, descriptorIndex := 12, attributes := #[] }, { accessFlags := 10, nameIndex := 11, descriptorIndex := 12, attributes := #[] }, { accessFlags := 74, nameIndex := 175, descriptorIndex := 176, attributes := #[] }, { accessFlags := 10, nameIndex := 491, descriptorIndex := 222, attributes := #[] }, { accessFlags := 74, nameIndex := 29, descriptorIndex := 30, attributes := #[] }, { accessFlags := 74, nameIndex := 154, descriptorIndex := 155, attributes := #[] }, { accessFlags := 10, nameIndex := 217, descriptorIndex := 218, attributes := #[] }, { accessFlags := 10, nameIndex := 221, descriptorIndex := 222, attributes := #[] }, { accessFlags := 8, nameIndex := 562, descriptorIndex := 563, attributes := #[] }])
  fields := #[{ name := "in", type := (.object "java/io/InputStream"), accessFlags := 25, slot := 0, constantValue := 0 }, { name := "out", type := (.object "java/io/PrintStream"), accessFlags := 25, slot := 1, constantValue := 0 }, { name := "err", type := (.object "java/io/PrintStream"), accessFlags := 25, slot := 2, constantValue := 0 }, { name := "initialIn", type := (.object "java/io/InputStream"), accessFlags := 10, slot := 3, constantValue := 0 }, { name := "NEVER", type := .int, accessFlags := 26, slot := 4, constantValue := 0 }, { name := "MAYBE", type := .int, accessFlags := 26, slot := 5, constantValue := 0 }, { name := "allowSecurityManager", type := .int, accessFlags := 10, slot := 6, constantValue := 0 }, { name := "security", type := (.object "java/lang/SecurityManager"), accessFlags := 74, slot := 7, constantValue := 0 }, { name := "notSupportedJnuEncoding", type := (.object "java/lang/String"), accessFlags := 10, slot := 8, constantValue := 0 }, { name := "cons", type := (.object "java/io/Console"), accessFlags := 74, slot := 9, constantValue := 0 }, { name := "initialErrStream", type := (.object "java/io/PrintStream"), accessFlags := 74, slot := 10, constantValue := 0 }, { name := "props", type := (.object "java/util/Properties"), accessFlags := 10, slot := 11, constantValue := 0 }, { name := "lineSeparator", type := (.object "java/lang/String"), accessFlags := 10, slot := 12, constantValue := 0 }, { name := "bootLayer", type := (.object "java/lang/ModuleLayer"), accessFlags := 8, slot := 13, constantValue := 0 }]
  methods := #[k16m0, k16m1]
  instanceTypes := #[]
  staticTypes := #[(.object "java/io/InputStream"), (.object "java/io/PrintStream"), (.object "java/io/PrintStream"), (.object "java/io/InputStream"), .int, .int, .int, (.object "java/lang/SecurityManager"), (.object "java/lang/String"), (.object "java/io/Console"), (.object "java/io/PrintStream"), (.object "java/util/Properties"), (.object "java/lang/String"), (.object "java/lang/ModuleLayer")]
  resolved := Array.replicate 834 none
  statics := none }

def pool17 : Array CpInfo := pool [(9, u "<init>"), (6, .class_ 18), (1, u "java/lang/Object"), (0, u "()V"), (1, .class_ 23), (1, u "jdk/internal/util/ArraysSupport"), (0, u "LOG2_ARRAY_LONG_INDEX_SCALE"), (0, u "I"), (2, u "U"), (0, u "Ljdk/internal/misc/Unsafe;"), (8, u "BIG_ENDIAN"), (0, u "Z"), (8, u "LOG2_BYTE_BIT_SIZE"), (4, u "LOG2_ARRAY_INT_INDEX_SCALE"), (54, u "JLA"), (0, u "Ljdk/internal/access/JavaLangAccess;"), (11, u "LOG2_ARRAY_BOOLEAN_INDEX_SCALE"), (9, u "LOG2_ARRAY_BYTE_INDEX_SCALE"), (5, u "LOG2_ARRAY_CHAR_INDEX_SCALE"), (5, u "LOG2_ARRAY_SHORT_INDEX_SCALE"), (18, u "LOG2_ARRAY_FLOAT_INDEX_SCALE"), (24, u "LOG2_ARRAY_DOUBLE_INDEX_SCALE"), (6, .methodref 195 196), (0, .class_ 197), (0, .nameAndType 198 199), (0, u "java/lang/Math"), (0, u "max"), (0, u "(II)I"), (0, .integer 2147483639), (76, u "T_BOOLEAN"), (2, u "T_CHAR"), (1, u "T_FLOAT"), (1, u "T_DOUBLE"), (1, u "T_BYTE"), (1, u "T_SHORT"), (1, u "T_INT"), (1, u "T_LONG"), (1, u "SOFT_MAX_ARRAY_LENGTH"), (56, u "newLength"), (0, u "(III)I")] 25

def k17m0 : Method := { name := "<init>", desc := "()V", sig := { parameters := [], returnType := none }, accessFlags := 2, code := none }
def k17c1 : Code := { maxStack := 3, maxLocals := 4, code := jdk_48_method_27_code, exceptionTable := #[], attributes := #[] }
def k17m1 : Method := { name := "newLength", desc := "(III)I", sig := { parameters := [.int, .int, .int], returnType := some .int }, accessFlags := 9, code := some k17c1 }
/-- jdk/internal/util/ArraysSupport -/
def k17 : Class := { plain "jdk/internal/util/ArraysSupport" (some 0) with
  accessFlags := 33
  interfaces := #[]
  cf := some (fileOf pool17 21 #[] #[{ accessFlags := 2, nameIndex := 9, descriptorIndex := 19, attributes := #[] }, { accessFlags := 9, nameIndex := 351, descriptorIndex := 352, attributes := #[] }] 33 16 #[] #[{ accessFlags := 24, nameIndex := 28, descriptorIndex := 29, attributes := #[] }, { accessFlags := 26, nameIndex := 38, descriptorIndex := 39, attributes := #[] }, { accessFlags := 25, nameIndex := 121, descriptorIndex := 25, attributes := #[] }, { accessFlags := 25, nameIndex := 131, descriptorIndex := 25, attributes := #[] }, { accessFlags := 25, nameIndex := 137, descriptorIndex := 25, attributes := #[] }, { accessFlags := 25, nameIndex := 143, descriptorIndex := 25, attributes := #[] }, { accessFlags := 25, nameIndex := 53, descriptorIndex := 25, attributes := #[] }, { accessFlags := 25, nameIndex := 24, descriptorIndex := 25, attributes := #[] }, { accessFlags := 25, nameIndex := 162, descriptorIndex := 25, attributes := #[] }, { accessFlags := 25, nameIndex := 187, descriptorIndex := 25, attributes := #[] }, { accessFlags := 26, nameIndex := 48, descriptorIndex := 25, attributes := #[] }, { accessFlags := 25, nameIndex := 277, descriptorIndex := 25, attributes := #[] }, { accessFlags := 25, nameIndex := 280, descriptorIndex := 25, attributes := #[] }, { accessFlags := 25, nameIndex := 282, descriptorIndex := 25, attributes := #[] }, { accessFlags := 25, nameIndex := 284, descriptorIndex := 25, attributes := #[] }, { accessFlags := 25, nameIndex := 286, descriptorIndex := 25, attributes := #[] }, { accessFlags := 25, nameIndex := 288, descriptorIndex := 25, attributes := #[] }, { accessFlags := 25, nameIndex := 290, descriptorIndex := 25, attributes := #[] }, { accessFlags := 25, nameIndex := 292, descriptorIndex := 25, attributes := #[] }, { accessFlags := 26, nameIndex := 108, descriptorIndex := 109, attributes := #[] }, { accessFlags := 25, nameIndex := 294, descriptorIndex := 25, attributes := #[] }])
  fields := #[{ name := "U", type := (.object "jdk/internal/misc/Unsafe"), accessFlags := 24, slot := 0, constantValue := 0 }, { name := "BIG_ENDIAN", type := .boolean, accessFlags := 26, slot := 1, constantValue := 0 }, { name := "LOG2_ARRAY_BOOLEAN_INDEX_SCALE", type := .int, accessFlags := 25, slot := 2, constantValue := 0 }, { name := "LOG2_ARRAY_BYTE_INDEX_SCALE", type := .int, accessFlags := 25, slot := 3, constantValue := 0 }, { name := "LOG2_ARRAY_CHAR_INDEX_SCALE", type := .int, accessFlags := 25, slot := 4, constantValue := 0 }, { name := "LOG2_ARRAY_SHORT_INDEX_SCALE", type := .int, accessFlags := 25, slot := 5, constantValue := 0 }, { name := "LOG2_ARRAY_INT_INDEX_SCALE", type := .int, accessFlags := 25, slot := 6, constantValue := 0 }, { name := "LOG2_ARRAY_LONG_INDEX_SCALE", type := .int, accessFlags := 25, slot := 7, constantValue := 0 }, { name := "LOG2_ARRAY_FLOAT_INDEX_SCALE", type := .int, accessFlags := 25, slot := 8, constantValue := 0 }, { name := "LOG2_ARRAY_DOUBLE_INDEX_SCALE", type := .int, accessFlags := 25, slot := 9, constantValue := 0 }, { name := "LOG2_BYTE_BIT_SIZE", type := .int, accessFlags := 26, slot := 10, constantValue := 0 }, { name := "T_BOOLEAN", type := .int, accessFlags := 25, slot := 11, constantValue := 0 }, { name := "T_CHAR", type := .int, accessFlags := 25, slot := 12, constantValue := 0 }, { name := "T_FLOAT", type := .int, accessFlags := 25, slot := 13, constantValue := 0 }, { name := "T_DOUBLE", type := .int, accessFlags := 25, slot := 14, constantValue := 0 }, { name := "T_BYTE", type := .int, accessFlags := 25, slot := 15, constantValue := 0 }, { name := "T_SHORT", type := .int, accessFlags := 25, slot := 16, constantValue := 0 }, { name := "T_INT", type := .int, accessFlags := 25, slot := 17, constantValue := 0 }, { name := "T_LONG", type := .int, accessFlags := 25, slot := 18, constantValue := 0 }, { name := "JLA", type := (.object "jdk/internal/access/JavaLangAccess"), accessFlags := 26, slot := 19, constantValue := 0 }, { name := "SOFT_MAX_ARRAY_LENGTH", type := .int, accessFlags := 25, slot := 20, constantValue := 0 }]
  methods := #[k17m0, k17m1]
  instanceTypes := #[]
  staticTypes := #[(.object "jdk/internal/misc/Unsafe"), .boolean, .int, .int, .int, .int, .int, .int, .int, .int, .int, .int, .int, .int, .int, .int, .int, .int, .int, (.object "jdk/internal/access/JavaLangAccess"), .int]
  resolved := Array.replicate 378 none
  statics := none }

def pool18 : Array CpInfo := pool [(1, .class_ 2), (0, u "java/lang/Math"), (1, .class_ 6), (1, u "java/lang/Object"), (0, u "<init>"), (0, u "()V"), (89, .class_ 100), (1, u "java/lang/Math$RandomNumberGeneratorHolder"), (71, u "negativeZeroFloatBits"), (0, u "J"), (2, u "negativeZeroDoubleBits"), (21, u "max"), (2, u "min"), (43, u "$assertionsDisabled"), (0, u "Z"), (88, u "(II)I"), (2, u "twoToTheDoubleScaleDown"), (0, u "D"), (4, u "twoToTheDoubleScaleUp"), (9, u "E"), (3, u "PI"), (2, u "TAU"), (2, u "DEGREES_TO_RADIANS"), (0, u "RADIANS_TO_DEGREES")] 94

def k18m0 : Method := { name := "<init>", desc := "()V", sig := { parameters := [], returnType := none }, accessFlags := 2, code := none }
def k18c1 : Code := { maxStack := 2, maxLocals := 2, code := jdk_29_method_65_code, exceptionTable := #[], attributes := #[] }
def k18m1 : Method := { name := "max", desc := "(II)I", sig := { parameters := [.int, .int], returnType := some .int }, accessFlags := 9, code := some k18c1 }
def k18c2 : Code := { maxStack := 2, maxLocals := 2, code := jdk_29_method_69_code, exceptionTable := #[], attributes := #[] }
def k18m2 : Method := { name := "min", desc := "(II)I", sig := { parameters := [.int, .int], returnType := some .int }, accessFlags := 9, code := some k18c2 }
/-- java/lang/Math -/
def k18 : Class := { plain "java/lang/Math" (some 0) with
  accessFlags := 49
  interfaces := #[]
  cf := some (fileOf pool18 1 #[.nestMembers #[98]] #[{ accessFlags := 2, nameIndex := 7, descriptorIndex := 8, attributes := #[] }, { accessFlags := 9, nameIndex := 198, descriptorIndex := 335, attributes := #[] }, { accessFlags := 9, nameIndex := 201, descriptorIndex := 335, attributes := #[] }] 49 4 #[] #[{ accessFlags := 25, nameIndex := 354, descriptorIndex := 339, attributes := #[] }, { accessFlags := 25, nameIndex := 358, descriptorIndex := 339, attributes := #[] }, { accessFlags := 25, nameIndex := 361, descriptorIndex := 339, attributes := #[] }, { accessFlags := 26, nameIndex := 364, descriptorIndex := 339, attributes := #[] }, { accessFlags := 26, nameIndex := 365, descriptorIndex := 339, attributes := #[] }, { accessFlags := 26, nameIndex := 172, descriptorIndex := 173, attributes := #[] }, { accessFlags := 26, nameIndex := 176, descriptorIndex := 173, attributes := #[] }, { accessFlags := 8, nameIndex := 344, descriptorIndex := 339, attributes := #[] }, { accessFlags := 8, nameIndex := 338, descriptorIndex := 339, attributes := #[] }, { accessFlags := 4120, nameIndex := 245, descriptorIndex := 246, attributes := #[] }])
  fields := #[{ name := "E", type := .double, accessFlags := 25, slot := 0, constantValue := 0 }, { name := "PI", type := .double, accessFlags := 25, slot := 1, constantValue := 0 }, { name := "TAU", type := .double, accessFlags := 25, slot := 2, constantValue := 0 }, { name := "DEGREES_TO_RADIANS", type := .double, accessFlags := 26, slot := 3, constantValue := 0 }, { name := "RADIANS_TO_DEGREES", type := .double, accessFlags := 26, slot := 4, constantValue := 0 }, { name := "negativeZeroFloatBits", type := .long, accessFlags := 26, slot := 5, constantValue := 0 }, { name := "negativeZeroDoubleBits", type := .long, accessFlags := 26, slot := 6, constantValue := 0 }, { name := "twoToTheDoubleScaleUp", type := .double, accessFlags := 8, slot := 7, constantValue := 0 }, { name := "twoToTheDoubleScaleDown", type := .double, accessFlags := 8, slot := 8, constantValue := 0 }, { name := "$assertionsDisabled", type := .boolean, accessFlags := 4120, slot := 9, constantValue := 0 }]
  methods := #[k18m0, k18m1, k18m2]
  instanceTypes := #[]
  staticTypes := #[.double, .double, .double, .double, .double, .long, .long, .double, .double, .boolean]
  resolved := Array.replicate 460 none
  statics := none }

def pool19 : Array CpInfo := pool [(2, .class_ 4), (1, u "java/lang/Object"), (0, u "<init>"), (0, u "()V"), (7, .class_ 16), (1, u "java/util/Arrays"), (57, .class_ 76), (1, u "java/util/Arrays$NaturalOrder"), (36, .class_ 115), (1, u "java/util/Arrays$LegacyMergeSort"), (1, u "Z"), (21, u "copyOfRange"), (10, .methodref 151 152), (0, .class_ 153), (0, .nameAndType 154 155), (0, u "java/lang/System"), (0, u "arraycopy"), (0, u "(Ljava/lang/Object;ILjava/lang/Object;II)V"), (146, u "copyOf"), (1, .methodref 305 306), (0, .class_ 307), (0, .nameAndType 308 309), (0, u "java/lang/Math"), (0, u "min"), (0, u "(II)I"), (29, .methodref 14 340), (0, .nameAndType 341 342), (0, u "copyOfRangeByte"), (0, u "([BII)[B"), (0, .methodref 14 344), (0, .nameAndType 345 346), (0, u "checkLength"), (0, u "(II)V"), (28, .class_ 376), (0, u "java/util/Arrays$ArrayList"), (68, u "$assertionsDisabled"), (269, u "MIN_ARRAY_SORT_GRAN"), (0, u "I"), (2, u "INSERTIONSORT_THRESHOLD"), (149, u "([BI)[B"), (105, .class_ 976), (0, u "java/util/Arrays$ArrayItr")] 52

def k19m0 : Method := { name := "<init>", desc := "()V", sig := { parameters := [], returnType := none }, accessFlags := 2, code := none }
def k19c1 : Code := { maxStack := 6, maxLocals := 3, code := jdk_65_method_121_code, exceptionTable := #[], attributes := #[] }
def k19m1 : Method := { name := "copyOf", desc := "([BI)[B", sig := { parameters := [(.array .byte), .int], returnType := some (.array .byte) }, accessFlags := 9, code := some k19c1 }
def k19c2 : Code := { maxStack := 4, maxLocals := 2, code := jdk_65_method_131_code, exceptionTable := #[], attributes := #[] }
def k19m2 : Method := { name := "checkLength", desc := "(II)V", sig := { parameters := [.int, .int], returnType := none }, accessFlags := 10, code := some k19c2 }
def k19c3 : Code := { maxStack := 3, maxLocals := 3, code := jdk_65_method_132_code, exceptionTable := #[], attributes := #[] }
def k19m3 : Method := { name := "copyOfRange", desc := "([BII)[B", sig := { parameters := [(.array .byte), .int, .int], returnType := some (.array .byte) }, accessFlags := 9, code := some k19c3 }
def k19c4 : Code := { maxStack := 6, maxLocals := 5, code := jdk_65_method_133_code, exceptionTable := #[], attributes := #[] }
def k19m4 : Method := { name := "copyOfRangeByte", desc := "([BII)[B", sig := { parameters := [(.array .byte), .int, .int], returnType := some (.array .byte) }, accessFlags := 10, code := some k19c4 }
/-- java/util/Arrays -/
def k19 : Class := { plain "java/util/Arrays" (some 0) with
  accessFlags := 49
  interfaces := #[]
  cf := some (fileOf pool19 14 #[.nestMembers #[975, 375, 113, 74]] #[{ accessFlags := 2, nameIndex := 5, descriptorIndex := 6, attributes := #[] }, { accessFlags := 9, nameIndex := 302, descriptorIndex := 869, attributes := #[] }, { accessFlags := 10, nameIndex := 345, descriptorIndex := 346, attributes := #[] }, { accessFlags := 9, nameIndex := 139, descriptorIndex := 342, attributes := #[] }, { accessFlags := 10, nameIndex := 341, descriptorIndex := 342, attributes := #[] }] 49 2 #[] #[{ accessFlags := 26, nameIndex := 715, descriptorIndex := 716, attributes := #[] }, { accessFlags := 26, nameIndex := 719, descriptorIndex := 716, attributes := #[] }, { accessFlags := 4120, nameIndex := 445, descriptorIndex := 117, attributes := #[] }])
  fields := #[{ name := "MIN_ARRAY_SORT_GRAN", type := .int, accessFlags := 26, slot := 0, constantValue := 0 }, { name := "INSERTIONSORT_THRESHOLD", type := .int, accessFlags := 26, slot := 1, constantValue := 0 }, { name := "$assertionsDisabled", type := .boolean, accessFlags := 4120, slot := 2, constantValue := 0 }]
  methods := #[k19m0, k19m1, k19m2, k19m3, k19m4]
  instanceTypes := #[]
  staticTypes := #[.int, .int, .boolean]
  resolved := Array.replicate 1029 none
  statics := none }

def pool20 : Array CpInfo := pool [(4, .class_ 6), (1, u "java/lang/Object"), (0, u "<init>"), (0, u "()V"), (5, .class_ 16), (1, u "java/lang/StringLatin1"), (0, u "inflate"), (2, .class_ 22), (1, u "java/lang/StringUTF16"), (3, .nameAndType 17 27), (0, u "([BI[BII)V"), (62, u "canEncode"), (14, u "(C)Z"), (15, u "$assertionsDisabled"), (0, u "Z"), (98, .class_ 223), (1, u "java/lang/StringLatin1$LinesSpliterator"), (16, .methodref 20 26), (40, u "equals"), (0, u "([B[B)Z"), (97, u "toBytes"), (1, u "(C)[B"), (7, .class_ 391), (0, u "java/lang/StringLatin1$CharsSpliterator")] 3

def k20m0 : Method := { name := "<init>", desc := "()V", sig := { parameters := [], returnType := none }, accessFlags := 0, code := none }
def k20c1 : Code := { maxStack := 2, maxLocals := 1, code := jdk_43_method_3_code, exceptionTable := #[], attributes := #[] }
def k20m1 : Method := { name := "canEncode", desc := "(C)Z", sig := { parameters := [.char], returnType := some .boolean }, accessFlags := 9, code := some k20c1 }
def k20c2 : Code := { maxStack := 3, maxLocals := 3, code := jdk_43_method_13_code, exceptionTable := #[], attributes := #[] }
def k20m2 : Method := { name := "equals", desc := "([B[B)Z", sig := { parameters := [(.array .byte), (.array .byte)], returnType := some .boolean }, accessFlags := 9, code := some k20c2 }
def k20c3 : Code := { maxStack := 4, maxLocals := 1, code := jdk_43_method_46_code, exceptionTable := #[], attributes := #[] }
def k20m3 : Method := { name := "toBytes", desc := "(C)[B", sig := { parameters := [.char], returnType := some (.array .byte) }, accessFlags := 9, code := some k20c3 }
def k20c4 : Code := { maxStack := 5, maxLocals := 5, code := jdk_43_method_50_code, exceptionTable := #[], attributes := #[] }
def k20m4 : Method := { name := "inflate", desc := "([BI[BII)V", sig := { parameters := [(.array .byte), .int, (.array .byte), .int, .int], returnType := none }, accessFlags := 9, code := some k20c4 }
/-- java/lang/StringLatin1 -/
def k20 : Class := { plain "java/lang/StringLatin1" (some 0) with
  accessFlags := 48
  interfaces := #[]
  cf := some (fileOf pool20 14 #[.nestMembers #[390, 221]] #[{ accessFlags := 0, nameIndex := 7, descriptorIndex := 8, attributes := #[] }, { accessFlags := 9, nameIndex := 90, descriptorIndex := 105, attributes := #[] }, { accessFlags := 9, nameIndex := 281, descriptorIndex := 282, attributes := #[] }, { accessFlags := 9, nameIndex := 380, descriptorIndex := 382, attributes := #[] }, { accessFlags := 9, nameIndex := 17, descriptorIndex := 27, attributes := #[] }] 48 4 #[] #[{ accessFlags := 4120, nameIndex := 121, descriptorIndex := 122, attributes := #[] }])
  fields := #[{ name := "$assertionsDisabled", type := .boolean, accessFlags := 4120, slot := 0, constantValue := 0 }]
  methods := #[k20m0, k20m1, k20m2, k20m3, k20m4]
  instanceTypes := #[]
  staticTypes := #[.boolean]
  resolved := Array.replicate 395 none
  statics := none }

def pool21 : Array CpInfo := pool [(3, .class_ 4), (0, u "java/lang/String"), (1, .class_ 8), (1, u "java/lang/Object"), (0, u "<init>"), (0, u "()V"), (0, .methodref 12 13), (0, .class_ 14), (0, .nameAndType 15 16), (0, u "java/lang/StringUTF16"), (0, u "newBytesLength"), (0, u "(I)I"), (3, .integer 1073741823), (23, .fieldref 12 45), (0, .nameAndType 46 47), (0, u "$assertionsDisabled"), (0, u "Z"), (0, .methodref 12 49), (0, .nameAndType 50 51), (0, u "length"), (0, u "([B)I"), (7, .fieldref 12 60), (0, .nameAndType 61 62), (0, u "HI_BYTE_SHIFT"), (0, u "I"), (0, .fieldref 12 64), (0, .nameAndType 65 62), (0, u "LO_BYTE_SHIFT"), (5, .methodref 12 72), (0, .nameAndType 73 74), (0, u "getChar"), (0, u "([BI)C"), (24, u "(II[B)V"), (7, .methodref 12 108), (0, .nameAndType 109 110), (0, u "newBytesFor"), (0, u "(I)[B"), (0, .methodref 12 112), (0, .nameAndType 113 114), (0, u "putChar"), (0, u "([BII)V"), (0, .methodref 12 116), (0, .nameAndType 117 118), (0, u "compress"), (0, u "([CI[BII)I"), (0, .methodref 12 120), (0, .nameAndType 121 122), (0, u "toBytes"), (0, u "([CII)[B"), (17, u "inflate"), (0, u "([BI[BII)V"), (31, .methodref 12 174), (0, .nameAndType 175 99), (0, u "checkBoundsOffCount"), (85, u "coderFromArrayLen"), (0, u "([BI)B"), (18, u "(III)I"), (87, .class_ 371), (1, u "java/lang/StringUTF16$LinesSpliterator"), (47, .methodref 3 420), (0, .nameAndType 175 281), (9, u "MAX_LENGTH"), (44, u "(C)[B"), (151, .class_ 628), (0, u "java/lang/StringUTF16$CodePointsSpliterator"), (0, .class_ 630), (0, u "java/lang/StringUTF16$CharsSpliterator")] 4

def k21m0 : Method := { name := "<init>", desc := "()V", sig := { parameters := [], returnType := none }, accessFlags := 0, code := none }
def k21c1 : Code := { maxStack := 1, maxLocals := 1, code := jdk_52_method_2_code, exceptionTable := #[], attributes := #[] }
def k21m1 : Method := { name := "newBytesFor", desc := "(I)[B", sig := { parameters := [.int], returnType := some (.array .byte) }, accessFlags := 9, code := some k21c1 }
def k21c2 : Code := { maxStack := 4, maxLocals := 1, code := jdk_52_method_3_code, exceptionTable := #[], attributes := #[] }
def k21m2 : Method := { name := "newBytesLength", desc := "(I)I", sig := { parameters := [.int], returnType := some .int }, accessFlags := 9, code := some k21c2 }
def k21c3 : Code := { maxStack := 4, maxLocals := 3, code := jdk_52_method_4_code, exceptionTable := #[], attributes := #[] }
def k21m3 : Method := { name := "putChar", desc := "([BII)V", sig := { parameters := [(.array .byte), .int, .int], returnType := none }, accessFlags := 8, code := some k21c3 }
def k21c4 : Code := { maxStack := 3, maxLocals := 2, code := jdk_52_method_5_code, exceptionTable := #[], attributes := #[] }
def k21m4 : Method := { name := "getChar", desc := "([BI)C", sig := { parameters := [(.array .byte), .int], returnType := some .char }, accessFlags := 8, code := some k21c4 }
def k21c5 : Code := { maxStack := 2, maxLocals := 1, code := jdk_52_method_6_code, exceptionTable := #[], attributes := #[] }
def k21m5 : Method := { name := "length", desc := "([B)I", sig := { parameters := [(.array .byte)], returnType := some .int }, accessFlags := 9, code := some k21c5 }
def k21c6 : Code := { maxStack := 4, maxLocals := 5, code := jdk_52_method_14_code, exceptionTable := #[], attributes := #[] }
def k21m6 : Method := { name := "toBytes", desc := "([CII)[B", sig := { parameters := [(.array .char), .int, .int], returnType := some (.array .byte) }, accessFlags := 9, code := some k21c6 }
def k21c7 : Code := { maxStack := 2, maxLocals := 2, code := jdk_52_method_15_code, exceptionTable := #[], attributes := #[] }
def k21m7 : Method := { name := "coderFromArrayLen", desc := "([BI)B", sig := { parameters := [(.array .byte), .int], returnType := some .byte }, accessFlags := 8, code := some k21c7 }
def k21c8 : Code := { maxStack := 5, maxLocals := 6, code := jdk_52_method_16_code, exceptionTable := #[], attributes := #[] }
def k21m8 : Method := { name := "compress", desc := "([CII)[B", sig := { parameters := [(.array .char), .int, .int], returnType := some (.array .byte) }, accessFlags := 9, code := some k21c8 }
def k21c9 : Code := { maxStack := 3, maxLocals := 7, code := jdk_52_method_21_code, exceptionTable := #[], attributes := #[] }
def k21m9 : Method := { name := "compress", desc := "([CI[BII)I", sig := { parameters := [(.array .char), .int, (.array .byte), .int, .int], returnType := some .int }, accessFlags := 9, code := some k21c9 }
def k21c10 : Code := { maxStack := 3, maxLocals := 2, code := jdk_52_method_24_code, exceptionTable := #[], attributes := #[] }
def k21m10 : Method := { name := "toBytes", desc := "(C)[B", sig := { parameters := [.char], returnType := some (.array .byte) }, accessFlags := 9, code := some k21c10 }
def k21c11 : Code := { maxStack := 4, maxLocals := 6, code := jdk_52_method_86_code, exceptionTable := #[], attributes := #[] }
def k21m11 : Method := { name := "inflate", desc := "([BI[BII)V", sig := { parameters := [(.array .byte), .int, (.array .byte), .int, .int], returnType := none }, accessFlags := 9, code := some k21c11 }
def k21c12 : Code := { maxStack := 3, maxLocals := 3, code := jdk_52_method_94_code, exceptionTable := #[], attributes := #[] }
def k21m12 : Method := { name := "checkBoundsOffCount", desc := "(II[B)V", sig := { parameters := [.int, .int, (.array .byte)], returnType := none }, accessFlags := 9, code := some k21c12 }
/-- java/lang/StringUTF16 -/
def k21 : Class := { plain "java/lang/StringUTF16" (some 0) with
  accessFlags := 48
  interfaces := #[]
  cf := some (fileOf pool21 12 #[.nestMembers #[627, 629, 369]] #[{ accessFlags := 0, nameIndex := 9, descriptorIndex := 10, attributes := #[] }, { accessFlags := 9, nameIndex := 109, descriptorIndex := 110, attributes := #[] }, { accessFlags := 9, nameIndex := 15, descriptorIndex := 16, attributes := #[] }, { accessFlags := 8, nameIndex := 113, descriptorIndex := 114, attributes := #[] }, { accessFlags := 8, nameIndex := 73, descriptorIndex := 74, attributes := #[] }, { accessFlags := 9, nameIndex := 50, descriptorIndex := 51, attributes := #[] }, { accessFlags := 9, nameIndex := 121, descriptorIndex := 122, attributes := #[] }, { accessFlags := 8, nameIndex := 261, descriptorIndex := 262, attributes := #[] }, { accessFlags := 9, nameIndex := 117, descriptorIndex := 122, attributes := #[] }, { accessFlags := 9, nameIndex := 117, descriptorIndex := 118, attributes := #[] }, { accessFlags := 9, nameIndex := 121, descriptorIndex := 475, attributes := #[] }, { accessFlags := 9, nameIndex := 140, descriptorIndex := 141, attributes := #[] }, { accessFlags := 9, nameIndex := 175, descriptorIndex := 99, attributes := #[] }] 48 6 #[] #[{ accessFlags := 26, nameIndex := 61, descriptorIndex := 62, attributes := #[] }, { accessFlags := 26, nameIndex := 65, descriptorIndex := 62, attributes := #[] }, { accessFlags := 24, nameIndex := 430, descriptorIndex := 62, attributes := #[] }, { accessFlags := 4120, nameIndex := 46, descriptorIndex := 47, attributes := #[] }])
  fields := #[{ name := "HI_BYTE_SHIFT", type := .int, accessFlags := 26, slot := 0, constantValue := 0 }, { name := "LO_BYTE_SHIFT", type := .int, accessFlags := 26, slot := 1, constantValue := 0 }, { name := "MAX_LENGTH", type := .int, accessFlags := 24, slot := 2, constantValue := 0 }, { name := "$assertionsDisabled", type := .boolean, accessFlags := 4120, slot := 3, constantValue := 0 }]
  methods := #[k21m0, k21m1, k21m2, k21m3, k21m4, k21m5, k21m6, k21m7, k21m8, k21m9, k21m10, k21m11, k21m12]
  instanceTypes := #[]
  staticTypes := #[.int, .int, .int, .boolean]
  resolved := Array.replicate 635 none
  statics := some 2 }

def pool22 : Array CpInfo := pool [(2, .class_ 4), (1, u "java/lang/Object"), (0, u "<init>"), (0, u "()V"), (17, .class_ 26), (1, u "jdk/internal/util/Preconditions"), (22, u "checkFromIndexSize"), (5, .class_ 56), (0, u "jdk/internal/util/Preconditions$4"), (57, .class_ 115), (0, u "jdk/internal/util/Preconditions$1"), (7, u "SIOOBE_FORMATTER"), (0, u "Ljava/util/function/BiFunction;"), (0, .class_ 126), (0, u "jdk/internal/util/Preconditions$2"), (3, u "AIOOBE_FORMATTER"), (0, .class_ 132), (0, u "jdk/internal/util/Preconditions$3"), (3, u "IOOBE_FORMATTER"), (46, u "(IIILjava/util/function/BiFunction;)I")] 10

def k22m0 : Method := { name := "<init>", desc := "()V", sig := { parameters := [], returnType := none }, accessFlags := 1, code := none }
def k22c1 : Code := { maxStack := 4, maxLocals := 4, code := jdk_41_method_13_code, exceptionTable := #[], attributes := #[] }
def k22m1 : Method := { name := "checkFromIndexSize", desc := "(IIILjava/util/function/BiFunction;)I", sig := { parameters := [.int, .int, .int, (.object "java/util/function/BiFunction")], returnType := some .int }, accessFlags := 9, code := some k22c1 }
/-- jdk/internal/util/Preconditions -/
def k22 : Class := { plain "jdk/internal/util/Preconditions" (some 0) with
  accessFlags := 33
  interfaces := #[]
  cf := some (fileOf pool22 24 #[.nestMembers #[55, 131, 125, 114]] #[{ accessFlags := 1, nameIndex := 5, descriptorIndex := 6, attributes := #[] }, { accessFlags := 9, nameIndex := 49, descriptorIndex := 183, attributes := #[] }] 33 2 #[] #[{ accessFlags := 25, nameIndex := 123, descriptorIndex := 124, attributes := #[] }, { accessFlags := 25, nameIndex := 130, descriptorIndex := 124, attributes := #[] }, { accessFlags := 25, nameIndex := 136, descriptorIndex := 124, attributes := #[] }])
  fields := #[{ name := "SIOOBE_FORMATTER", type := (.object "java/util/function/BiFunction"), accessFlags := 25, slot := 0, constantValue := 0 }, { name := "AIOOBE_FORMATTER", type := (.object "java/util/function/BiFunction"), accessFlags := 25, slot := 1, constantValue := 0 }, { name := "IOOBE_FORMATTER", type := (.object "java/util/function/BiFunction"), accessFlags := 25, slot := 2, constantValue := 0 }]
  methods := #[k22m0, k22m1]
  instanceTypes := #[]
  staticTypes := #[(.object "java/util/function/BiFunction"), (.object "java/util/function/BiFunction"), (.object "java/util/function/BiFunction")]
  resolved := Array.replicate 194 none
  statics := some 3 }

def pool23 : Array CpInfo := pool [(2, .class_ 4), (1, u "java/lang/Object"), (0, u "<init>"), (0, u "()V"), (12, .class_ 20), (0, u "java/util/Collections"), (63, u "r"), (0, u "Ljava/util/Random;"), (80, .class_ 167), (0, u "java/util/Collections$UnmodifiableCollection"), (6, .class_ 175), (0, u "java/util/Collections$UnmodifiableSequencedCollection"), (6, .class_ 183), (0, u "java/util/Collections$UnmodifiableSet"), (6, .class_ 191), (0, u "java/util/Collections$UnmodifiableSequencedSet"), (6, .class_ 199), (0, u "java/util/Collections$UnmodifiableSortedSet"), (6, .class_ 207), (0, u "java/util/Collections$UnmodifiableNavigableSet"), (4, .class_ 213), (0, u "java/util/Collections$UnmodifiableList"), (1, .class_ 216), (0, u "java/util/Collections$UnmodifiableRandomAccessList"), (6, .class_ 224), (0, u "java/util/Collections$UnmodifiableMap"), (6, .class_ 232), (0, u "java/util/Collections$UnmodifiableSequencedMap"), (4, .class_ 238), (0, u "java/util/Collections$UnmodifiableSortedMap"), (6, .class_ 246), (0, u "java/util/Collections$UnmodifiableNavigableMap"), (3, .class_ 251), (0, u "java/util/Collections$SynchronizedCollection"), (4, .class_ 257), (0, u "java/util/Collections$SynchronizedSet"), (4, .class_ 263), (0, u "java/util/Collections$SynchronizedSortedSet"), (1, .class_ 266), (0, u "java/util/Collections$SynchronizedNavigableSet"), (1, .class_ 269), (0, u "java/util/Collections$SynchronizedRandomAccessList"), (1, .class_ 272), (0, u "java/util/Collections$SynchronizedList"), (5, .class_ 279), (0, u "java/util/Collections$SynchronizedMap"), (1, .class_ 282), (0, u "java/util/Collections$SynchronizedSortedMap"), (1, .class_ 285), (0, u "java/util/Collections$SynchronizedNavigableMap"), (1, .class_ 288), (0, u "java/util/Collections$CheckedCollection"), (11, .class_ 301), (0, u "java/util/Collections$CheckedQueue"), (3, .class_ 306), (0, u "java/util/Collections$CheckedSet"), (3, .class_ 311), (0, u "java/util/Collections$CheckedSortedSet"), (3, .class_ 316), (0, u "java/util/Collections$CheckedNavigableSet"), (3, .class_ 321), (0, u "java/util/Collections$CheckedRandomAccessList"), (3, .class_ 326), (0, u "java/util/Collections$CheckedList"), (1, .class_ 329), (0, u "java/util/Collections$CheckedMap"), (3, .class_ 334), (0, u "java/util/Collections$CheckedSortedMap"), (3, .class_ 339), (0, u "java/util/Collections$CheckedNavigableMap"), (4, .class_ 346), (1, u "java/util/Collections$EmptyIterator"), (3, .class_ 352), (1, u "java/util/Collections$EmptyListIterator"), (2, .class_ 357), (1, u "java/util/Collections$EmptyEnumeration"), (4, u "EMPTY_SET"), (0, u "Ljava/util/Set;"), (6, u "EMPTY_LIST"), (0, u "Ljava/util/List;"), (2, u "EMPTY_MAP"), (0, u "Ljava/util/Map;"), (4, .class_ 381), (0, u "java/util/Collections$SingletonSet"), (2, .class_ 385), (0, u "java/util/Collections$1"), (1, .class_ 388), (0, u "java/util/Collections$2"), (1, .class_ 391), (0, u "java/util/Collections$SingletonList"), (1, .class_ 394), (0, u "java/util/Collections$SingletonMap"), (22, .class_ 418), (0, u "java/util/Collections$CopiesList"), (4, .class_ 425), (1, u "java/util/Collections$ReverseComparator"), (8, .class_ 435), (0, u "java/util/Collections$ReverseComparator2"), (6, .class_ 443), (0, u "java/util/Collections$3"), (25, .class_ 470), (0, u "java/util/Collections$SetFromMap"), (2, .class_ 474), (0, u "java/util/Collections$SequencedSetFromMap"), (3, .class_ 479), (0, u "java/util/Collections$AsLIFOQueue"), (11, .class_ 492), (0, u "java/util/Collections$EmptySet"), (1, .class_ 495), (0, u "java/util/Collections$EmptyList"), (1, .class_ 498), (0, u "java/util/Collections$EmptyMap"), (1, u "BINARYSEARCH_THRESHOLD"), (0, u "I"), (2, u "REVERSE_THRESHOLD"), (1, u "SHUFFLE_THRESHOLD"), (1, u "FILL_THRESHOLD"), (1, u "ROTATE_THRESHOLD"), (1, u "COPY_THRESHOLD"), (1, u "REPLACEALL_THRESHOLD"), (1, u "INDEXOFSUBLIST_THRESHOLD"), (333, .class_ 851), (0, u "java/util/Collections$CheckedMap$CheckedEntrySet"), (0, .class_ 853), (0, u "java/util/Collections$CheckedMap$CheckedEntrySet$CheckedEntry"), (0, .class_ 855), (0, u "java/util/Collections$CheckedMap$CheckedEntrySet$1"), (0, .class_ 857), (0, u "java/util/Collections$CheckedList$1"), (0, .class_ 859), (0, u "java/util/Collections$CheckedCollection$1"), (0, .class_ 861), (0, u "java/util/Collections$UnmodifiableNavigableMap$EmptyNavigableMap"), (0, .class_ 863), (0, u "java/util/Collections$UnmodifiableMap$UnmodifiableEntrySet"), (0, .class_ 865), (0, u "java/util/Collections$UnmodifiableMap$UnmodifiableEntrySet$UnmodifiableEntry"), (0, .class_ 867), (0, u "java/util/Collections$UnmodifiableMap$UnmodifiableEntrySet$UnmodifiableEntrySetSpliterator"), (0, .class_ 869), (0, u "java/util/Collections$UnmodifiableMap$UnmodifiableEntrySet$1"), (0, .class_ 871), (0, u "java/util/Collections$UnmodifiableList$1"), (0, .class_ 873), (0, u "java/util/Collections$UnmodifiableNavigableSet$EmptyNavigableSet"), (0, .class_ 875), (0, u "java/util/Collections$UnmodifiableCollection$1")] 57

def k23m0 : Method := { name := "<init>", desc := "()V", sig := { parameters := [], returnType := none }, accessFlags := 2, code := none }
/-- java/util/Collections -/
def k23 : Class := { plain "java/util/Collections" (some 0) with
  accessFlags := 33
  interfaces := #[]
  cf := some (fileOf pool23 19 #[.nestMembers #[478, 473, 469, 434, 423, 417, 393, 390, 380, 497, 494, 491, 355, 350, 344, 338, 333, 328, 850, 852, 854, 320, 325, 856, 315, 310, 305, 300, 287, 858, 284, 281, 278, 268, 271, 265, 262, 256, 250, 245, 860, 237, 231, 223, 862, 864, 866, 868, 215, 212, 870, 206, 872, 198, 190, 182, 174, 166, 874, 442, 387, 384]] #[{ accessFlags := 2, nameIndex := 5, descriptorIndex := 6, attributes := #[] }] 33 2 #[] #[{ accessFlags := 26, nameIndex := 500, descriptorIndex := 501, attributes := #[] }, { accessFlags := 26, nameIndex := 504, descriptorIndex := 501, attributes := #[] }, { accessFlags := 26, nameIndex := 506, descriptorIndex := 501, attributes := #[] }, { accessFlags := 26, nameIndex := 508, descriptorIndex := 501, attributes := #[] }, { accessFlags := 26, nameIndex := 510, descriptorIndex := 501, attributes := #[] }, { accessFlags := 26, nameIndex := 512, descriptorIndex := 501, attributes := #[] }, { accessFlags := 26, nameIndex := 514, descriptorIndex := 501, attributes := #[] }, { accessFlags := 26, nameIndex := 516, descriptorIndex := 501, attributes := #[] }, { accessFlags := 10, nameIndex := 84, descriptorIndex := 85, attributes := #[] }, { accessFlags := 25, nameIndex := 362, descriptorIndex := 363, attributes := #[] }, { accessFlags := 25, nameIndex := 370, descriptorIndex := 371, attributes := #[] }, { accessFlags := 25, nameIndex := 374, descriptorIndex := 375, attributes := #[] }])
  fields := #[{ name := "BINARYSEARCH_THRESHOLD", type := .int, accessFlags := 26, slot := 0, constantValue := 0 }, { name := "REVERSE_THRESHOLD", type := .int, accessFlags := 26, slot := 1, constantValue := 0 }, { name := "SHUFFLE_THRESHOLD", type := .int, accessFlags := 26, slot := 2, constantValue := 0 }, { name := "FILL_THRESHOLD", type := .int, accessFlags := 26, slot := 3, constantValue := 0 }, { name := "ROTATE_THRESHOLD", type := .int, accessFlags := 26, slot := 4, constantValue := 0 }, { name := "COPY_THRESHOLD", type := .int, accessFlags := 26, slot := 5, constantValue := 0 }, { name := "REPLACEALL_THRESHOLD", type := .int, accessFlags := 26, slot := 6, constantValue := 0 }, { name := "INDEXOFSUBLIST_THRESHOLD", type := .int, accessFlags := 26, slot := 7, constantValue := 0 }, { name := "r", type := (.object "java/util/Random"), accessFlags := 10, slot := 8, constantValue := 0 }, { name := "EMPTY_SET", type := (.object "java/util/Set"), accessFlags := 25, slot := 9, constantValue := 0 }, { name := "EMPTY_LIST", type := (.object "java/util/List"), accessFlags := 25, slot := 10, constantValue := 0 }, { name := "EMPTY_MAP", type := (.object "java/util/Map"), accessFlags := 25, slot := 11, constantValue := 0 }]
  methods := #[k23m0]
  instanceTypes := #[]
  staticTypes := #[.int, .int, .int, .int, .int, .int, .int, .int, (.object "java/util/Random"), (.object "java/util/Set"), (.object "java/util/List"), (.object "java/util/Map")]
  resolved := Array.replicate 933 none
  statics := some 4 }

def pool24 : Array CpInfo := pool [(8, .class_ 10), (1, u "java/lang/Iterable"), (24, .class_ 36), (0, u "java/lang/Object")] 25

/-- java/lang/Iterable -/
def k24 : Class := { plain "java/lang/Iterable" (some 0) with
  accessFlags := 1537
  interfaces := #[]
  cf := some (fileOf pool24 8 #[] #[] 1537 35 #[] #[])
  fields := #[]
  methods := #[]
  instanceTypes := #[]
  staticTypes := #[]
  resolved := Array.replicate 62 none
  statics := none }

def pool25 : Array CpInfo := pool [(10, .class_ 12), (1, u "java/util/Collection"), (47, .class_ 61), (0, u "java/lang/Object"), (0, .class_ 63), (0, u "java/lang/Iterable")] 51

/-- java/util/Collection -/
def k25 : Class := { plain "java/util/Collection" (some 0) with
  accessFlags := 1537
  interfaces := #[24]
  cf := some (fileOf pool25 10 #[] #[] 1537 60 #[62] #[])
  fields := #[]
  methods := #[]
  instanceTypes := #[]
  staticTypes := #[]
  resolved := Array.replicate 115 none
  statics := none }

def pool26 : Array CpInfo := pool [(2, .class_ 4), (1, u "java/lang/Object"), (0, u "<init>"), (0, u "()V"), (1, .class_ 10), (1, u "java/util/AbstractCollection"), (66, .class_ 78), (0, u "java/util/Collection")] 81

def k26m0 : Method := { name := "<init>", desc := "()V", sig := { parameters := [], returnType := none }, accessFlags := 4, code := none }
/-- java/util/AbstractCollection -/
def k26 : Class := { plain "java/util/AbstractCollection" (some 0) with
  accessFlags := 1057
  interfaces := #[25]
  cf := some (fileOf pool26 8 #[] #[{ accessFlags := 4, nameIndex := 5, descriptorIndex := 6, attributes := #[] }] 1057 2 #[77] #[])
  fields := #[]
  methods := #[k26m0]
  instanceTypes := #[]
  staticTypes := #[]
  resolved := Array.replicate 160 none
  statics := none }

def pool27 : Array CpInfo := pool [(8, .class_ 10), (1, u "java/util/SequencedCollection"), (15, .class_ 27), (0, u "java/lang/Object"), (0, .class_ 29), (0, u "java/util/Collection")] 27

/-- java/util/SequencedCollection -/
def k27 : Class := { plain "java/util/SequencedCollection" (some 0) with
  accessFlags := 1537
  interfaces := #[25]
  cf := some (fileOf pool27 8 #[] #[] 1537 26 #[28] #[])
  fields := #[]
  methods := #[]
  instanceTypes := #[]
  staticTypes := #[]
  resolved := Array.replicate 57 none
  statics := none }

def pool28 : Array CpInfo := pool [(8, .class_ 10), (1, u "java/util/List"), (92, .class_ 104), (0, u "java/lang/Object"), (15, .class_ 121), (0, u "java/util/SequencedCollection")] 129

/-- java/util/List -/
def k28 : Class := { plain "java/util/List" (some 0) with
  accessFlags := 1537
  interfaces := #[27]
  cf := some (fileOf pool28 8 #[] #[] 1537 103 #[120] #[])
  fields := #[]
  methods := #[]
  instanceTypes := #[]
  staticTypes := #[]
  resolved := Array.replicate 251 none
  statics := none }

def pool29 : Array CpInfo := pool [(2, .class_ 4), (1, u "java/util/AbstractCollection"), (0, u "<init>"), (0, u "()V"), (1, .class_ 10), (1, u "java/util/AbstractList"), (0, u "modCount"), (0, u "I"), (64, .class_ 78), (0, u "java/util/AbstractList$Itr"), (3, .class_ 83), (0, u "java/util/AbstractList$ListItr"), (9, .class_ 94), (0, u "java/util/AbstractList$RandomAccessSubList"), (3, .class_ 99), (0, u "java/util/AbstractList$SubList"), (33, .class_ 134), (0, u "java/util/List"), (73, .class_ 209), (0, u "java/util/AbstractList$SubList$1"), (0, .class_ 211), (0, u "java/util/AbstractList$RandomAccessSpliterator")] 6

def k29m0 : Method := { name := "<init>", desc := "()V", sig := { parameters := [], returnType := none }, accessFlags := 4, code := none }
/-- java/util/AbstractList -/
def k29 : Class := { plain "java/util/AbstractList" (some 26) with
  accessFlags := 1057
  interfaces := #[28]
  cf := some (fileOf pool29 8 #[.nestMembers #[93, 98, 208, 210, 82, 77]] #[{ accessFlags := 4, nameIndex := 5, descriptorIndex := 6, attributes := #[] }] 1057 2 #[133] #[{ accessFlags := 132, nameIndex := 11, descriptorIndex := 12, attributes := #[] }])
  fields := #[{ name := "modCount", type := .int, accessFlags := 132, slot := 0, constantValue := 0 }]
  methods := #[k29m0]
  instanceTypes := #[.int]
  staticTypes := #[]
  resolved := Array.replicate 218 none
  statics := none }

def pool30 : Array CpInfo := pool [(1, .class_ 2), (0, u "java/util/RandomAccess"), (0, .class_ 4), (0, u "java/lang/Object")] 2

/-- java/util/RandomAccess -/
def k30 : Class := { plain "java/util/RandomAccess" (some 0) with
  accessFlags := 1537
  interfaces := #[]
  cf := some (fileOf pool30 1 #[] #[] 1537 3 #[] #[])
  fields := #[]
  methods := #[]
  instanceTypes := #[]
  staticTypes := #[]
  resolved := Array.replicate 7 none
  statics := none }

def pool31 : Array CpInfo := pool [(2, .class_ 4), (1, u "java/util/AbstractList"), (0, u "<init>"), (0, u "()V"), (1, .class_ 10), (1, u "java/util/Collections"), (54, .class_ 66), (0, u "java/util/Collections$EmptyList"), (0, .class_ 68), (0, u "java/util/RandomAccess"), (0, .class_ 70), (0, u "java/io/Serializable"), (0, u "serialVersionUID"), (0, u "J")] 77

def k31m0 : Method := { name := "<init>", desc := "()V", sig := { parameters := [], returnType := none }, accessFlags := 2, code := none }
/-- java/util/Collections$EmptyList -/
def k31 : Class := { plain "java/util/Collections$EmptyList" (some 29) with
  accessFlags := 32
  interfaces := #[30, 2]
  cf := some (fileOf pool31 65 #[.nestHost 8] #[{ accessFlags := 2, nameIndex := 5, descriptorIndex := 6, attributes := #[] }] 32 2 #[67, 69] #[{ accessFlags := 26, nameIndex := 71, descriptorIndex := 72, attributes := #[] }])
  fields := #[{ name := "serialVersionUID", type := .long, accessFlags := 26, slot := 0, constantValue := 0 }]
  methods := #[k31m0]
  instanceTypes := #[.int]
  staticTypes := #[.long]
  resolved := Array.replicate 150 none
  statics := none }

def pool32 : Array CpInfo := pool [(2, .class_ 4), (1, u "java/lang/StackTraceElement"), (0, u "<init>"), (2, .class_ 10), (1, u "java/lang/Object"), (0, u "()V"), (2, u "format"), (0, u "B"), (2, u "classLoaderName"), (0, u "Ljava/lang/String;"), (2, u "moduleName"), (2, u "moduleVersion"), (12, u "declaringClass"), (4, u "methodName"), (2, u "fileName"), (2, u "lineNumber"), (0, u "I"), (65, u "declaringClassObject"), (0, u "Ljava/lang/Class;"), (33, .class_ 153), (1, u "java/lang/StackTraceElement$HashedModules"), (17, .class_ 172), (0, u "java/io/Serializable"), (0, u "NATIVE_METHOD"), (1, u "UNKNOWN_SOURCE"), (2, u "BUILTIN_CLASS_LOADER"), (1, u "JDK_NON_UPGRADEABLE_MODULE"), (1, u "serialVersionUID"), (0, u "J")] 51

def k32m0 : Method := { name := "<init>", desc := "()V", sig := { parameters := [], returnType := none }, accessFlags := 2, code := none }
/-- java/lang/StackTraceElement -/
def k32 : Class := { plain "java/lang/StackTraceElement" (some 0) with
  accessFlags := 49
  interfaces := #[2]
  cf := some (fileOf pool32 2 #[.nestMembers #[151]] #[{ accessFlags := 2, nameIndex := 5, descriptorIndex := 11, attributes := #[] }] 49 8 #[171] #[{ accessFlags := 26, nameIndex := 173, descriptorIndex := 19, attributes := #[] }, { accessFlags := 26, nameIndex := 175, descriptorIndex := 19, attributes := #[] }, { accessFlags := 130, nameIndex := 116, descriptorIndex := 117, attributes := #[] }, { accessFlags := 2, nameIndex := 18, descriptorIndex := 19, attributes := #[] }, { accessFlags := 2, nameIndex := 22, descriptorIndex := 19, attributes := #[] }, { accessFlags := 2, nameIndex := 25, descriptorIndex := 19, attributes := #[] }, { accessFlags := 2, nameIndex := 38, descriptorIndex := 19, attributes := #[] }, { accessFlags := 2, nameIndex := 43, descriptorIndex := 19, attributes := #[] }, { accessFlags := 2, nameIndex := 46, descriptorIndex := 19, attributes := #[] }, { accessFlags := 2, nameIndex := 49, descriptorIndex := 50, attributes := #[] }, { accessFlags := 2, nameIndex := 14, descriptorIndex := 15, attributes := #[] }, { accessFlags := 26, nameIndex := 178, descriptorIndex := 15, attributes := #[] }, { accessFlags := 26, nameIndex := 180, descriptorIndex := 15, attributes := #[] }, { accessFlags := 26, nameIndex := 182, descriptorIndex := 183, attributes := #[] }])
  fields := #[{ name := "NATIVE_METHOD", type := (.object "java/lang/String"), accessFlags := 26, slot := 0, constantValue := 0 }, { name := "UNKNOWN_SOURCE", type := (.object "java/lang/String"), accessFlags := 26, slot := 1, constantValue := 0 }, { name := "declaringClassObject", type := (.object "java/lang/Class"), accessFlags := 130, slot := 0, constantValue := 0 }, { name := "classLoaderName", type := (.object "java/lang/String"), accessFlags := 2, slot := 1, constantValue := 0 }, { name := "moduleName", type := (.object "java/lang/String"), accessFlags := 2, slot := 2, constantValue := 0 }, { name := "moduleVersion", type := (.object "java/lang/String"), accessFlags := 2, slot := 3, constantValue := 0 }, { name := "declaringClass", type := (.object "java/lang/String"), accessFlags := 2, slot := 4, constantValue := 0 }, { name := "methodName", type := (.object "java/lang/String"), accessFlags := 2, slot := 5, constantValue := 0 }, { name := "fileName", type := (.object "java/lang/String"), accessFlags := 2, slot := 6, constantValue := 0 }, { name := "lineNumber", type := .int, accessFlags := 2, slot := 7, constantValue := 0 }, { name := "format", type := .byte, accessFlags := 2, slot := 8, constantValue := 0 }, { name := "BUILTIN_CLASS_LOADER", type := .byte, accessFlags := 26, slot := 2, constantValue := 0 }, { name := "JDK_NON_UPGRADEABLE_MODULE", type := .byte, accessFlags := 26, slot := 3, constantValue := 0 }, { name := "serialVersionUID", type := .long, accessFlags := 26, slot := 4, constantValue := 0 }]
  methods := #[k32m0]
  instanceTypes := #[(.object "java/lang/Class"), (.object "java/lang/String"), (.object "java/lang/String"), (.object "java/lang/String"), (.object "java/lang/String"), (.object "java/lang/String"), (.object "java/lang/String"), .int, .byte]
  staticTypes := #[(.object "java/lang/String"), (.object "java/lang/String"), .byte, .byte, .long]
  resolved := Array.replicate 235 none
  statics := none }

def pool33 : Array CpInfo := pool [(1, u "java/lang/Cloneable"), (0, .class_ 1), (0, u "java/lang/Object"), (0, .class_ 3)] 3

/-- java/lang/Cloneable -/
def k33 : Class := { plain "java/lang/Cloneable" (some 0) with
  accessFlags := 1537
  interfaces := #[]
  cf := some (fileOf pool33 2 #[] #[] 1537 4 #[] #[])
  fields := #[]
  methods := #[]
  instanceTypes := #[]
  staticTypes := #[]
  resolved := Array.replicate 8 none
  statics := none }

/-- the primitive byte -/
def k34 : Class := { plain "byte" none with kind := .primitive 'B', accessFlags := 0x411 }
/-- [B -/
def k35 : Class := { plain "[B" (some 0) with kind := .array 34 .byte, interfaces := #[33, 2], accessFlags := 1041 }

/-- the primitive char -/
def k36 : Class := { plain "char" none with kind := .primitive 'C', accessFlags := 0x411 }
/-- [C -/
def k37 : Class := { plain "[C" (some 0) with kind := .array 36 .char, interfaces := #[33, 2], accessFlags := 1041 }

/-- the primitive int -/
def k38 : Class := { plain "int" none with kind := .primitive 'I', accessFlags := 0x411 }
/-- [I -/
def k39 : Class := { plain "[I" (some 0) with kind := .array 38 .int, interfaces := #[33, 2], accessFlags := 1041 }

/-- [Ljava/lang/Object; -/
def k40 : Class := { plain "[Ljava/lang/Object;" (some 0) with kind := .array 0 (.object "java/lang/Object"), interfaces := #[33, 2], accessFlags := 1041 }

/-- [Ljava/lang/StackTraceElement; -/
def k41 : Class := { plain "[Ljava/lang/StackTraceElement;" (some 0) with kind := .array 32 (.object "java/lang/StackTraceElement"), interfaces := #[33, 2], accessFlags := 1041 }

/-- [Ljava/lang/Throwable; -/
def k42 : Class := { plain "[Ljava/lang/Throwable;" (some 0) with kind := .array 9 (.object "java/lang/Throwable"), interfaces := #[33, 2], accessFlags := 1041 }

def heap : Heap := #[{ cls := 7, slots := #[.long 0, .int 1, .null, .int 0, .null, .int 0, .int 0], vm := .statics 7 },
  { cls := 9, slots := #[.long 0, .ref 5, .ref 6, .null, .null, .null, .null, .ref 7, .int 1], vm := .statics 9 },
  { cls := 21, slots := #[.int 0, .int 8, .int 0, .int 1], vm := .statics 21 },
  { cls := 22, slots := #[.null, .null, .null], vm := .statics 22 },
  { cls := 23, slots := #[.int 0, .int 0, .int 0, .int 0, .int 0, .int 0, .int 0, .int 0, .null, .null, .ref 6, .null], vm := .statics 23 },
  { cls := 41, slots := #[], vm := .none },
  { cls := 31, slots := #[.int 0], vm := .none },
  { cls := 42, slots := #[], vm := .none }]
def classes : Array Class := #[k0, k1, k2, k3, k4, k5, k6, k7, k8, k9, k10, k11, k12, k13, k14, k15, k16, k17, k18, k19, k20, k21, k22, k23, k24, k25, k26, k27, k28, k29, k30, k31, k32, k33, k34, k35, k36, k37, k38, k39, k40, k41, k42]
def interned : List (Array UInt16 × Addr) := []
def slotsUsed : Nat := 36
def theMethod : MethodId := ⟨1, 1⟩
def args0 : Array Value := #[.int 3, .int 4660, .int 66, .int 9029]
def aboutOver (below : List Frame) : State where
  vm := { classes := classes, interned := interned.toArray }
  heap := heap
  slotsUsed := slotsUsed
  threads := #[{ frames := .invoking theMethod args0 :: below }]
def below0 : List Frame := [.native { method := ⟨0, 0⟩, args := #[] }]
def about1 : State := aboutOver below0
def p0 : Program := .bare "" "" ""
def e0 : Env := launch0.env 0 0 0
theorem w_frames : about1.frames = Frame.invoking theMethod args0 :: below0 := rfl
set_option maxRecDepth 65536 in
theorem w_args : argsFit about1.vm theMethod args0 = true := by decide +kernel
set_option maxRecDepth 65536 in
theorem w_heap : heapFits about1 = true := by decide +kernel
set_option maxRecDepth 65536 in
theorem w_runnable : about1.curStatus? = some .runnable := by decide +kernel
set_option maxRecDepth 65536 in
theorem w_alone : about1.alone = true := by decide +kernel
set_option maxRecDepth 65536 in
theorem w_named : about1.methodNamed? x = some theMethod := by decide +kernel
set_option maxRecDepth 65536 in
theorem w_hears : about1.hears theMethod below0 = true := by decide +kernel
set_option maxRecDepth 65536 in
theorem w_ripe : about1.ripe theMethod args0 below0 = true := by decide +kernel
theorem w_running : about1.status = .running := rfl
set_option maxRecDepth 65536 in
theorem w_room : about1.hasRoom e0.platform room_1 = true :=
  launch0.hasRoom_least _ room_1 (by decide +kernel) (by decide +kernel) (by decide +kernel) (by decide +kernel) (by decide +kernel) (by decide +kernel)
theorem allAtoms_all (ts : List Jvm.Cond) (a : Array Jvm.Value) (st : Jvm.State) : (allAtoms ts).before a st = ts.all (fun c => c.before a st) := by
  induction ts with
  | nil => rfl
  | cons c t ih =>
    show (Jvm.Cond.and c (allAtoms t)).before a st = _
    rw [Jvm.Cond.before_and, ih, List.all_cons]
def words1 : List Jvm.Cond := Jvm.Cond.code x code maxLocals ret :: tables_1
/-- a 'code' word, met by the world's own term for the bytes: nothing is compared byte by byte -/
theorem code_word {y : MethodName} {bytes : ByteArray} {mx : Nat} {rt : Option FieldType} {a : Array Value} {s : State} {m : MethodId} {meth : Method} {c : Code} (h1 : s.methodNamed? y = some m) (h2 : s.vm.method? m = some meth) (h3 : meth.code = some c) (h4 : c.code = bytes)
    (h5 : (c.maxLocals == mx && c.exceptionTable.isEmpty && decide (c.maxStack ≤ mostOperands) && decide (meth.sig.returnType = rt) && !meth.locks && decide (parseMethodDescriptor y.desc = some meth.sig)) = true) : (Jvm.Cond.code y bytes mx rt).before a s = true := by
  simp only [Bool.and_eq_true, beq_iff_eq, Bool.not_eq_true', decide_eq_true_eq] at h5
  obtain ⟨⟨⟨⟨⟨g1, g2⟩, g3⟩, g4⟩, g5⟩, g6⟩ := h5
  simp [Cond.before, Cond.holds, Cond.value, h1, h2, h3, h4, g1, g2, g3, g4, g5, g6]
def isCode : Jvm.Cond → Bool
  | .code _ _ _ _ => true
  | _ => false
theorem all_split {L : List Jvm.Cond} {P : Jvm.Cond → Bool} (h1 : L.all (fun c => isCode c || P c) = true) (h2 : ∀ c ∈ L.filter isCode, P c = true) : L.all P = true := by
  refine List.all_eq_true.mpr fun c hc => ?_
  have h := List.all_eq_true.mp h1 c hc
  rcases Bool.eq_false_or_eq_true (isCode c) with hi | hi
  · exact h2 c (List.mem_filter.mpr ⟨hc, hi⟩)
  · simpa [hi] using h
set_option maxRecDepth 65536 in
theorem w_c0 : (Jvm.Cond.code x code maxLocals ret).before args0 about1 = true := code_word (m := ⟨1, 1⟩) (meth := k1m1) (c := k1c1) (by decide +kernel) rfl rfl rfl (by decide +kernel)
set_option maxRecDepth 65536 in
theorem w_c1 : (Jvm.Cond.code ({ cls := "java/lang/String", name := "<init>", desc := "([C)V" } : Jvm.MethodName) jdk_42_method_3_code (2 : Nat) (Option.none : Option Jvm.ClassFile.FieldType)).before args0 about1 = true := code_word (m := ⟨7, 1⟩) (meth := k7m1) (c := k7c1) (by decide +kernel) rfl rfl rfl (by decide +kernel)
set_option maxRecDepth 65536 in
theorem w_c2 : (Jvm.Cond.code ({ cls := "java/lang/String", name := "<init>", desc := "([CIILjava/lang/Void;)V" } : Jvm.MethodName) jdk_42_method_149_code (6 : Nat) (Option.none : Option Jvm.ClassFile.FieldType)).before args0 about1 = true := code_word (m := ⟨7, 7⟩) (meth := k7m7) (c := k7c7) (by decide +kernel) rfl rfl rfl (by decide +kernel)
set_option maxRecDepth 65536 in
theorem w_c3 : (Jvm.Cond.code ({ cls := "java/lang/Object", name := "<init>", desc := "()V" } : Jvm.MethodName) object_method_1_code (1 : Nat) (Option.none : Option Jvm.ClassFile.FieldType)).before args0 about1 = true := code_word (m := ⟨0, 0⟩) (meth := k0m0) (c := k0c0) (by decide +kernel) rfl rfl rfl (by decide +kernel)
set_option maxRecDepth 65536 in
theorem w_c4 : (Jvm.Cond.code ({ cls := "com/example/yusen/yusen/figures/Checks", name := "notPositive", desc := "(Ljava/lang/String;)Ljava/lang/IllegalArgumentException;" } : Jvm.MethodName) prog_15_method_3_code (1 : Nat) (Option.some (Jvm.ClassFile.FieldType.object "java/lang/IllegalArgumentException"))).before args0 about1 = true := code_word (m := ⟨8, 1⟩) (meth := k8m1) (c := k8c1) (by decide +kernel) rfl rfl rfl (by decide +kernel)
set_option maxRecDepth 65536 in
theorem w_c5 : (Jvm.Cond.code ({ cls := "java/lang/StringBuilder", name := "<init>", desc := "()V" } : Jvm.MethodName) jdk_67_method_1_code (1 : Nat) (Option.none : Option Jvm.ClassFile.FieldType)).before args0 about1 = true := code_word (m := ⟨15, 0⟩) (meth := k15m0) (c := k15c0) (by decide +kernel) rfl rfl rfl (by decide +kernel)
set_option maxRecDepth 65536 in
theorem w_c6 : (Jvm.Cond.code ({ cls := "java/lang/AbstractStringBuilder", name := "<init>", desc := "(I)V" } : Jvm.MethodName) jdk_68_method_2_code (2 : Nat) (Option.none : Option Jvm.ClassFile.FieldType)).before args0 about1 = true := code_word (m := ⟨14, 1⟩) (meth := k14m1) (c := k14c1) (by decide +kernel) rfl rfl rfl (by decide +kernel)
set_option maxRecDepth 65536 in
theorem w_c7 : (Jvm.Cond.code ({ cls := "java/lang/StringBuilder", name := "append", desc := "(Ljava/lang/String;)Ljava/lang/StringBuilder;" } : Jvm.MethodName) jdk_67_method_7_code (2 : Nat) (Option.some (Jvm.ClassFile.FieldType.object "java/lang/StringBuilder"))).before args0 about1 = true := code_word (m := ⟨15, 1⟩) (meth := k15m1) (c := k15c1) (by decide +kernel) rfl rfl rfl (by decide +kernel)
set_option maxRecDepth 65536 in
theorem w_c8 : (Jvm.Cond.code ({ cls := "java/lang/AbstractStringBuilder", name := "append", desc := "(Ljava/lang/String;)Ljava/lang/AbstractStringBuilder;" } : Jvm.MethodName) jdk_68_method_22_code (3 : Nat) (Option.some (Jvm.ClassFile.FieldType.object "java/lang/AbstractStringBuilder"))).before args0 about1 = true := code_word (m := ⟨14, 6⟩) (meth := k14m6) (c := k14c6) (by decide +kernel) rfl rfl rfl (by decide +kernel)
set_option maxRecDepth 65536 in
theorem w_c9 : (Jvm.Cond.code ({ cls := "java/lang/String", name := "length", desc := "()I" } : Jvm.MethodName) jdk_42_method_54_code (1 : Nat) (Option.some Jvm.ClassFile.FieldType.int)).before args0 about1 = true := code_word (m := ⟨7, 3⟩) (meth := k7m3) (c := k7c3) (by decide +kernel) rfl rfl rfl (by decide +kernel)
set_option maxRecDepth 65536 in
theorem w_c10 : (Jvm.Cond.code ({ cls := "java/lang/String", name := "coder", desc := "()B" } : Jvm.MethodName) jdk_42_method_152_code (1 : Nat) (Option.some Jvm.ClassFile.FieldType.byte)).before args0 about1 = true := code_word (m := ⟨7, 10⟩) (meth := k7m10) (c := k7c10) (by decide +kernel) rfl rfl rfl (by decide +kernel)
set_option maxRecDepth 65536 in
theorem w_c11 : (Jvm.Cond.code ({ cls := "java/lang/AbstractStringBuilder", name := "ensureCapacityInternal", desc := "(I)V" } : Jvm.MethodName) jdk_68_method_9_code (3 : Nat) (Option.none : Option Jvm.ClassFile.FieldType)).before args0 about1 = true := code_word (m := ⟨14, 3⟩) (meth := k14m3) (c := k14c3) (by decide +kernel) rfl rfl rfl (by decide +kernel)
set_option maxRecDepth 65536 in
theorem w_c12 : (Jvm.Cond.code ({ cls := "java/lang/AbstractStringBuilder", name := "putStringAt", desc := "(ILjava/lang/String;)V" } : Jvm.MethodName) jdk_68_method_73_code (3 : Nat) (Option.none : Option Jvm.ClassFile.FieldType)).before args0 about1 = true := code_word (m := ⟨14, 10⟩) (meth := k14m10) (c := k14c10) (by decide +kernel) rfl rfl rfl (by decide +kernel)
set_option maxRecDepth 65536 in
theorem w_c13 : (Jvm.Cond.code ({ cls := "java/lang/AbstractStringBuilder", name := "inflateIfNeededFor", desc := "(Ljava/lang/String;)V" } : Jvm.MethodName) jdk_68_method_71_code (2 : Nat) (Option.none : Option Jvm.ClassFile.FieldType)).before args0 about1 = true := code_word (m := ⟨14, 9⟩) (meth := k14m9) (c := k14c9) (by decide +kernel) rfl rfl rfl (by decide +kernel)
set_option maxRecDepth 65536 in
theorem w_c14 : (Jvm.Cond.code ({ cls := "java/lang/String", name := "getBytes", desc := "([BIB)V" } : Jvm.MethodName) jdk_42_method_147_code (4 : Nat) (Option.none : Option Jvm.ClassFile.FieldType)).before args0 about1 = true := code_word (m := ⟨7, 6⟩) (meth := k7m6) (c := k7c6) (by decide +kernel) rfl rfl rfl (by decide +kernel)
set_option maxRecDepth 65536 in
theorem w_c15 : (Jvm.Cond.code ({ cls := "java/lang/AbstractStringBuilder", name := "newCapacity", desc := "(I)I" } : Jvm.MethodName) jdk_68_method_10_code (6 : Nat) (Option.some Jvm.ClassFile.FieldType.int)).before args0 about1 = true := code_word (m := ⟨14, 4⟩) (meth := k14m4) (c := k14c4) (by decide +kernel) rfl rfl rfl (by decide +kernel)
set_option maxRecDepth 65536 in
theorem w_c16 : (Jvm.Cond.code ({ cls := "jdk/internal/util/ArraysSupport", name := "newLength", desc := "(III)I" } : Jvm.MethodName) jdk_48_method_27_code (4 : Nat) (Option.some Jvm.ClassFile.FieldType.int)).before args0 about1 = true := code_word (m := ⟨17, 1⟩) (meth := k17m1) (c := k17c1) (by decide +kernel) rfl rfl rfl (by decide +kernel)
set_option maxRecDepth 65536 in
theorem w_c17 : (Jvm.Cond.code ({ cls := "java/lang/Math", name := "max", desc := "(II)I" } : Jvm.MethodName) jdk_29_method_65_code (2 : Nat) (Option.some Jvm.ClassFile.FieldType.int)).before args0 about1 = true := code_word (m := ⟨18, 1⟩) (meth := k18m1) (c := k18c1) (by decide +kernel) rfl rfl rfl (by decide +kernel)
set_option maxRecDepth 65536 in
theorem w_c18 : (Jvm.Cond.code ({ cls := "java/util/Arrays", name := "copyOf", desc := "([BI)[B" } : Jvm.MethodName) jdk_65_method_121_code (3 : Nat) (Option.some (Jvm.ClassFile.FieldType.array Jvm.ClassFile.FieldType.byte))).before args0 about1 = true := code_word (m := ⟨19, 1⟩) (meth := k19m1) (c := k19c1) (by decide +kernel) rfl rfl rfl (by decide +kernel)
set_option maxRecDepth 65536 in
theorem w_c19 : (Jvm.Cond.code ({ cls := "java/lang/Math", name := "min", desc := "(II)I" } : Jvm.MethodName) jdk_29_method_69_code (2 : Nat) (Option.some Jvm.ClassFile.FieldType.int)).before args0 about1 = true := code_word (m := ⟨18, 2⟩) (meth := k18m2) (c := k18c2) (by decide +kernel) rfl rfl rfl (by decide +kernel)
set_option maxRecDepth 65536 in
theorem w_c20 : (Jvm.Cond.code ({ cls := "java/lang/StringBuilder", name := "toString", desc := "()Ljava/lang/String;" } : Jvm.MethodName) jdk_67_method_42_code (1 : Nat) (Option.some (Jvm.ClassFile.FieldType.object "java/lang/String"))).before args0 about1 = true := code_word (m := ⟨15, 2⟩) (meth := k15m2) (c := k15c2) (by decide +kernel) rfl rfl rfl (by decide +kernel)
set_option maxRecDepth 65536 in
theorem w_c21 : (Jvm.Cond.code ({ cls := "java/lang/String", name := "<init>", desc := "(Ljava/lang/StringBuilder;)V" } : Jvm.MethodName) jdk_42_method_53_code (2 : Nat) (Option.none : Option Jvm.ClassFile.FieldType)).before args0 about1 = true := code_word (m := ⟨7, 2⟩) (meth := k7m2) (c := k7c2) (by decide +kernel) rfl rfl rfl (by decide +kernel)
set_option maxRecDepth 65536 in
theorem w_c22 : (Jvm.Cond.code ({ cls := "java/lang/String", name := "<init>", desc := "(Ljava/lang/AbstractStringBuilder;Ljava/lang/Void;)V" } : Jvm.MethodName) jdk_42_method_150_code (5 : Nat) (Option.none : Option Jvm.ClassFile.FieldType)).before args0 about1 = true := code_word (m := ⟨7, 8⟩) (meth := k7m8) (c := k7c8) (by decide +kernel) rfl rfl rfl (by decide +kernel)
set_option maxRecDepth 65536 in
theorem w_c23 : (Jvm.Cond.code ({ cls := "java/lang/AbstractStringBuilder", name := "getValue", desc := "()[B" } : Jvm.MethodName) jdk_68_method_64_code (1 : Nat) (Option.some (Jvm.ClassFile.FieldType.array Jvm.ClassFile.FieldType.byte))).before args0 about1 = true := code_word (m := ⟨14, 7⟩) (meth := k14m7) (c := k14c7) (by decide +kernel) rfl rfl rfl (by decide +kernel)
set_option maxRecDepth 65536 in
theorem w_c24 : (Jvm.Cond.code ({ cls := "java/lang/StringBuilder", name := "length", desc := "()I" } : Jvm.MethodName) jdk_67_method_93_code (1 : Nat) (Option.some Jvm.ClassFile.FieldType.int)).before args0 about1 = true := code_word (m := ⟨15, 3⟩) (meth := k15m3) (c := k15c3) (by decide +kernel) rfl rfl rfl (by decide +kernel)
set_option maxRecDepth 65536 in
theorem w_c25 : (Jvm.Cond.code ({ cls := "java/lang/AbstractStringBuilder", name := "length", desc := "()I" } : Jvm.MethodName) jdk_68_method_6_code (1 : Nat) (Option.some Jvm.ClassFile.FieldType.int)).before args0 about1 = true := code_word (m := ⟨14, 2⟩) (meth := k14m2) (c := k14c2) (by decide +kernel) rfl rfl rfl (by decide +kernel)
set_option maxRecDepth 65536 in
theorem w_c26 : (Jvm.Cond.code ({ cls := "java/lang/AbstractStringBuilder", name := "isLatin1", desc := "()Z" } : Jvm.MethodName) jdk_68_method_68_code (1 : Nat) (Option.some Jvm.ClassFile.FieldType.boolean)).before args0 about1 = true := code_word (m := ⟨14, 8⟩) (meth := k14m8) (c := k14c8) (by decide +kernel) rfl rfl rfl (by decide +kernel)
set_option maxRecDepth 65536 in
theorem w_c27 : (Jvm.Cond.code ({ cls := "java/util/Arrays", name := "copyOfRange", desc := "([BII)[B" } : Jvm.MethodName) jdk_65_method_132_code (3 : Nat) (Option.some (Jvm.ClassFile.FieldType.array Jvm.ClassFile.FieldType.byte))).before args0 about1 = true := code_word (m := ⟨19, 3⟩) (meth := k19m3) (c := k19c3) (by decide +kernel) rfl rfl rfl (by decide +kernel)
set_option maxRecDepth 65536 in
theorem w_c28 : (Jvm.Cond.code ({ cls := "java/util/Arrays", name := "copyOfRangeByte", desc := "([BII)[B" } : Jvm.MethodName) jdk_65_method_133_code (5 : Nat) (Option.some (Jvm.ClassFile.FieldType.array Jvm.ClassFile.FieldType.byte))).before args0 about1 = true := code_word (m := ⟨19, 4⟩) (meth := k19m4) (c := k19c4) (by decide +kernel) rfl rfl rfl (by decide +kernel)
set_option maxRecDepth 65536 in
theorem w_c29 : (Jvm.Cond.code ({ cls := "java/util/Arrays", name := "checkLength", desc := "(II)V" } : Jvm.MethodName) jdk_65_method_131_code (2 : Nat) (Option.none : Option Jvm.ClassFile.FieldType)).before args0 about1 = true := code_word (m := ⟨19, 2⟩) (meth := k19m2) (c := k19c2) (by decide +kernel) rfl rfl rfl (by decide +kernel)
set_option maxRecDepth 65536 in
theorem w_c30 : (Jvm.Cond.code ({ cls := "java/lang/IllegalArgumentException", name := "<init>", desc := "(Ljava/lang/String;)V" } : Jvm.MethodName) jdk_57_method_2_code (2 : Nat) (Option.none : Option Jvm.ClassFile.FieldType)).before args0 about1 = true := code_word (m := ⟨12, 1⟩) (meth := k12m1) (c := k12c1) (by decide +kernel) rfl rfl rfl (by decide +kernel)
set_option maxRecDepth 65536 in
theorem w_c31 : (Jvm.Cond.code ({ cls := "java/lang/RuntimeException", name := "<init>", desc := "(Ljava/lang/String;)V" } : Jvm.MethodName) jdk_58_method_2_code (2 : Nat) (Option.none : Option Jvm.ClassFile.FieldType)).before args0 about1 = true := code_word (m := ⟨11, 1⟩) (meth := k11m1) (c := k11c1) (by decide +kernel) rfl rfl rfl (by decide +kernel)
set_option maxRecDepth 65536 in
theorem w_c32 : (Jvm.Cond.code ({ cls := "java/lang/Exception", name := "<init>", desc := "(Ljava/lang/String;)V" } : Jvm.MethodName) jdk_59_method_2_code (2 : Nat) (Option.none : Option Jvm.ClassFile.FieldType)).before args0 about1 = true := code_word (m := ⟨10, 1⟩) (meth := k10m1) (c := k10c1) (by decide +kernel) rfl rfl rfl (by decide +kernel)
set_option maxRecDepth 65536 in
theorem w_c33 : (Jvm.Cond.code ({ cls := "java/lang/Throwable", name := "<init>", desc := "(Ljava/lang/String;)V" } : Jvm.MethodName) jdk_78_method_2_code (2 : Nat) (Option.none : Option Jvm.ClassFile.FieldType)).before args0 about1 = true := code_word (m := ⟨9, 1⟩) (meth := k9m1) (c := k9c1) (by decide +kernel) rfl rfl rfl (by decide +kernel)
set_option maxRecDepth 65536 in
theorem w_c34 : (Jvm.Cond.code ({ cls := "java/lang/Throwable", name := "<init>", desc := "()V" } : Jvm.MethodName) jdk_78_method_1_code (1 : Nat) (Option.none : Option Jvm.ClassFile.FieldType)).before args0 about1 = true := code_word (m := ⟨9, 0⟩) (meth := k9m0) (c := k9c0) (by decide +kernel) rfl rfl rfl (by decide +kernel)
set_option maxRecDepth 65536 in
theorem w_c35 : (Jvm.Cond.code ({ cls := "java/lang/Throwable", name := "getMessage", desc := "()Ljava/lang/String;" } : Jvm.MethodName) jdk_78_method_6_code (1 : Nat) (Option.some (Jvm.ClassFile.FieldType.object "java/lang/String"))).before args0 about1 = true := code_word (m := ⟨9, 2⟩) (meth := k9m2) (c := k9c2) (by decide +kernel) rfl rfl rfl (by decide +kernel)
set_option maxRecDepth 65536 in
theorem w_c36 : (Jvm.Cond.code ({ cls := "com/example/yusen/yusen/figures/ChecksNotPositivePinLaw", name := "expected", desc := "(ICCC)Ljava/lang/String;" } : Jvm.MethodName) method_3_code (4 : Nat) (Option.some (Jvm.ClassFile.FieldType.object "java/lang/String"))).before args0 about1 = true := code_word (m := ⟨1, 2⟩) (meth := k1m2) (c := k1c2) (by decide +kernel) rfl rfl rfl (by decide +kernel)
set_option maxRecDepth 65536 in
theorem w_c37 : (Jvm.Cond.code ({ cls := "java/lang/String", name := "equals", desc := "(Ljava/lang/Object;)Z" } : Jvm.MethodName) jdk_42_method_66_code (3 : Nat) (Option.some Jvm.ClassFile.FieldType.boolean)).before args0 about1 = true := code_word (m := ⟨7, 4⟩) (meth := k7m4) (c := k7c4) (by decide +kernel) rfl rfl rfl (by decide +kernel)
set_option maxRecDepth 65536 in
theorem w_c38 : (Jvm.Cond.code ({ cls := "java/lang/StringLatin1", name := "equals", desc := "([B[B)Z" } : Jvm.MethodName) jdk_43_method_13_code (3 : Nat) (Option.some Jvm.ClassFile.FieldType.boolean)).before args0 about1 = true := code_word (m := ⟨20, 2⟩) (meth := k20m2) (c := k20c2) (by decide +kernel) rfl rfl rfl (by decide +kernel)
set_option maxRecDepth 65536 in
theorem w_c39 : (Jvm.Cond.code ({ cls := "java/lang/StringUTF16", name := "compress", desc := "([CII)[B" } : Jvm.MethodName) jdk_52_method_16_code (6 : Nat) (Option.some (Jvm.ClassFile.FieldType.array Jvm.ClassFile.FieldType.byte))).before args0 about1 = true := code_word (m := ⟨21, 8⟩) (meth := k21m8) (c := k21c8) (by decide +kernel) rfl rfl rfl (by decide +kernel)
set_option maxRecDepth 65536 in
theorem w_c40 : (Jvm.Cond.code ({ cls := "java/lang/StringUTF16", name := "compress", desc := "([CI[BII)I" } : Jvm.MethodName) jdk_52_method_21_code (7 : Nat) (Option.some Jvm.ClassFile.FieldType.int)).before args0 about1 = true := code_word (m := ⟨21, 9⟩) (meth := k21m9) (c := k21c9) (by decide +kernel) rfl rfl rfl (by decide +kernel)
set_option maxRecDepth 65536 in
theorem w_c41 : (Jvm.Cond.code ({ cls := "java/lang/StringUTF16", name := "coderFromArrayLen", desc := "([BI)B" } : Jvm.MethodName) jdk_52_method_15_code (2 : Nat) (Option.some Jvm.ClassFile.FieldType.byte)).before args0 about1 = true := code_word (m := ⟨21, 7⟩) (meth := k21m7) (c := k21c7) (by decide +kernel) rfl rfl rfl (by decide +kernel)
set_option maxRecDepth 65536 in
theorem w_c42 : (Jvm.Cond.code ({ cls := "java/lang/StringUTF16", name := "toBytes", desc := "([CII)[B" } : Jvm.MethodName) jdk_52_method_14_code (5 : Nat) (Option.some (Jvm.ClassFile.FieldType.array Jvm.ClassFile.FieldType.byte))).before args0 about1 = true := code_word (m := ⟨21, 6⟩) (meth := k21m6) (c := k21c6) (by decide +kernel) rfl rfl rfl (by decide +kernel)
set_option maxRecDepth 65536 in
theorem w_c43 : (Jvm.Cond.code ({ cls := "java/lang/StringUTF16", name := "newBytesFor", desc := "(I)[B" } : Jvm.MethodName) jdk_52_method_2_code (1 : Nat) (Option.some (Jvm.ClassFile.FieldType.array Jvm.ClassFile.FieldType.byte))).before args0 about1 = true := code_word (m := ⟨21, 1⟩) (meth := k21m1) (c := k21c1) (by decide +kernel) rfl rfl rfl (by decide +kernel)
set_option maxRecDepth 65536 in
theorem w_c44 : (Jvm.Cond.code ({ cls := "java/lang/StringUTF16", name := "newBytesLength", desc := "(I)I" } : Jvm.MethodName) jdk_52_method_3_code (1 : Nat) (Option.some Jvm.ClassFile.FieldType.int)).before args0 about1 = true := code_word (m := ⟨21, 2⟩) (meth := k21m2) (c := k21c2) (by decide +kernel) rfl rfl rfl (by decide +kernel)
set_option maxRecDepth 65536 in
theorem w_c45 : (Jvm.Cond.code ({ cls := "java/lang/StringUTF16", name := "putChar", desc := "([BII)V" } : Jvm.MethodName) jdk_52_method_4_code (3 : Nat) (Option.none : Option Jvm.ClassFile.FieldType)).before args0 about1 = true := code_word (m := ⟨21, 3⟩) (meth := k21m3) (c := k21c3) (by decide +kernel) rfl rfl rfl (by decide +kernel)
set_option maxRecDepth 65536 in
theorem w_c46 : (Jvm.Cond.code ({ cls := "java/lang/StringUTF16", name := "getChar", desc := "([BI)C" } : Jvm.MethodName) jdk_52_method_5_code (2 : Nat) (Option.some Jvm.ClassFile.FieldType.char)).before args0 about1 = true := code_word (m := ⟨21, 4⟩) (meth := k21m4) (c := k21c4) (by decide +kernel) rfl rfl rfl (by decide +kernel)
set_option maxRecDepth 65536 in
theorem w_c47 : (Jvm.Cond.code ({ cls := "java/lang/AbstractStringBuilder", name := "inflate", desc := "()V" } : Jvm.MethodName) jdk_68_method_11_code (2 : Nat) (Option.none : Option Jvm.ClassFile.FieldType)).before args0 about1 = true := code_word (m := ⟨14, 5⟩) (meth := k14m5) (c := k14c5) (by decide +kernel) rfl rfl rfl (by decide +kernel)
set_option maxRecDepth 65536 in
theorem w_c48 : (Jvm.Cond.code ({ cls := "java/lang/StringLatin1", name := "inflate", desc := "([BI[BII)V" } : Jvm.MethodName) jdk_43_method_50_code (5 : Nat) (Option.none : Option Jvm.ClassFile.FieldType)).before args0 about1 = true := code_word (m := ⟨20, 4⟩) (meth := k20m4) (c := k20c4) (by decide +kernel) rfl rfl rfl (by decide +kernel)
set_option maxRecDepth 65536 in
theorem w_c49 : (Jvm.Cond.code ({ cls := "java/lang/StringUTF16", name := "inflate", desc := "([BI[BII)V" } : Jvm.MethodName) jdk_52_method_86_code (6 : Nat) (Option.none : Option Jvm.ClassFile.FieldType)).before args0 about1 = true := code_word (m := ⟨21, 11⟩) (meth := k21m11) (c := k21c11) (by decide +kernel) rfl rfl rfl (by decide +kernel)
set_option maxRecDepth 65536 in
theorem w_c50 : (Jvm.Cond.code ({ cls := "java/lang/StringUTF16", name := "checkBoundsOffCount", desc := "(II[B)V" } : Jvm.MethodName) jdk_52_method_94_code (3 : Nat) (Option.none : Option Jvm.ClassFile.FieldType)).before args0 about1 = true := code_word (m := ⟨21, 12⟩) (meth := k21m12) (c := k21c12) (by decide +kernel) rfl rfl rfl (by decide +kernel)
set_option maxRecDepth 65536 in
theorem w_c51 : (Jvm.Cond.code ({ cls := "java/lang/StringUTF16", name := "length", desc := "([B)I" } : Jvm.MethodName) jdk_52_method_6_code (1 : Nat) (Option.some Jvm.ClassFile.FieldType.int)).before args0 about1 = true := code_word (m := ⟨21, 5⟩) (meth := k21m5) (c := k21c5) (by decide +kernel) rfl rfl rfl (by decide +kernel)
set_option maxRecDepth 65536 in
theorem w_c52 : (Jvm.Cond.code ({ cls := "java/lang/String", name := "checkBoundsOffCount", desc := "(III)I" } : Jvm.MethodName) jdk_42_method_157_code (3 : Nat) (Option.some Jvm.ClassFile.FieldType.int)).before args0 about1 = true := code_word (m := ⟨7, 11⟩) (meth := k7m11) (c := k7c11) (by decide +kernel) rfl rfl rfl (by decide +kernel)
set_option maxRecDepth 65536 in
theorem w_c53 : (Jvm.Cond.code ({ cls := "jdk/internal/util/Preconditions", name := "checkFromIndexSize", desc := "(IIILjava/util/function/BiFunction;)I" } : Jvm.MethodName) jdk_41_method_13_code (4 : Nat) (Option.some Jvm.ClassFile.FieldType.int)).before args0 about1 = true := code_word (m := ⟨22, 1⟩) (meth := k22m1) (c := k22c1) (by decide +kernel) rfl rfl rfl (by decide +kernel)
set_option maxRecDepth 65536 in
theorem w_c54 : (Jvm.Cond.code ({ cls := "java/lang/String", name := "valueOf", desc := "(C)Ljava/lang/String;" } : Jvm.MethodName) jdk_42_method_139_code (1 : Nat) (Option.some (Jvm.ClassFile.FieldType.object "java/lang/String"))).before args0 about1 = true := code_word (m := ⟨7, 5⟩) (meth := k7m5) (c := k7c5) (by decide +kernel) rfl rfl rfl (by decide +kernel)
set_option maxRecDepth 65536 in
theorem w_c55 : (Jvm.Cond.code ({ cls := "java/lang/StringLatin1", name := "canEncode", desc := "(C)Z" } : Jvm.MethodName) jdk_43_method_3_code (1 : Nat) (Option.some Jvm.ClassFile.FieldType.boolean)).before args0 about1 = true := code_word (m := ⟨20, 1⟩) (meth := k20m1) (c := k20c1) (by decide +kernel) rfl rfl rfl (by decide +kernel)
set_option maxRecDepth 65536 in
theorem w_c56 : (Jvm.Cond.code ({ cls := "java/lang/StringLatin1", name := "toBytes", desc := "(C)[B" } : Jvm.MethodName) jdk_43_method_46_code (1 : Nat) (Option.some (Jvm.ClassFile.FieldType.array Jvm.ClassFile.FieldType.byte))).before args0 about1 = true := code_word (m := ⟨20, 3⟩) (meth := k20m3) (c := k20c3) (by decide +kernel) rfl rfl rfl (by decide +kernel)
set_option maxRecDepth 65536 in
theorem w_c57 : (Jvm.Cond.code ({ cls := "java/lang/String", name := "<init>", desc := "([BB)V" } : Jvm.MethodName) jdk_42_method_151_code (3 : Nat) (Option.none : Option Jvm.ClassFile.FieldType)).before args0 about1 = true := code_word (m := ⟨7, 9⟩) (meth := k7m9) (c := k7c9) (by decide +kernel) rfl rfl rfl (by decide +kernel)
set_option maxRecDepth 65536 in
theorem w_c58 : (Jvm.Cond.code ({ cls := "java/lang/StringUTF16", name := "toBytes", desc := "(C)[B" } : Jvm.MethodName) jdk_52_method_24_code (2 : Nat) (Option.some (Jvm.ClassFile.FieldType.array Jvm.ClassFile.FieldType.byte))).before args0 about1 = true := code_word (m := ⟨21, 10⟩) (meth := k21m10) (c := k21c10) (by decide +kernel) rfl rfl rfl (by decide +kernel)
def codes1 : List Jvm.Cond := [Jvm.Cond.code x code maxLocals ret, Jvm.Cond.code ({ cls := "java/lang/String", name := "<init>", desc := "([C)V" } : Jvm.MethodName) jdk_42_method_3_code (2 : Nat) (Option.none : Option Jvm.ClassFile.FieldType), Jvm.Cond.code ({ cls := "java/lang/String", name := "<init>", desc := "([CIILjava/lang/Void;)V" } : Jvm.MethodName) jdk_42_method_149_code (6 : Nat) (Option.none : Option Jvm.ClassFile.FieldType), Jvm.Cond.code ({ cls := "java/lang/Object", name := "<init>", desc := "()V" } : Jvm.MethodName) object_method_1_code (1 : Nat) (Option.none : Option Jvm.ClassFile.FieldType), Jvm.Cond.code ({ cls := "com/example/yusen/yusen/figures/Checks", name := "notPositive", desc := "(Ljava/lang/String;)Ljava/lang/IllegalArgumentException;" } : Jvm.MethodName) prog_15_method_3_code (1 : Nat) (Option.some (Jvm.ClassFile.FieldType.object "java/lang/IllegalArgumentException")), Jvm.Cond.code ({ cls := "java/lang/StringBuilder", name := "<init>", desc := "()V" } : Jvm.MethodName) jdk_67_method_1_code (1 : Nat) (Option.none : Option Jvm.ClassFile.FieldType), Jvm.Cond.code ({ cls := "java/lang/AbstractStringBuilder", name := "<init>", desc := "(I)V" } : Jvm.MethodName) jdk_68_method_2_code (2 : Nat) (Option.none : Option Jvm.ClassFile.FieldType), Jvm.Cond.code ({ cls := "java/lang/StringBuilder", name := "append", desc := "(Ljava/lang/String;)Ljava/lang/StringBuilder;" } : Jvm.MethodName) jdk_67_method_7_code (2 : Nat) (Option.some (Jvm.ClassFile.FieldType.object "java/lang/StringBuilder")), Jvm.Cond.code ({ cls := "java/lang/AbstractStringBuilder", name := "append", desc := "(Ljava/lang/String;)Ljava/lang/AbstractStringBuilder;" } : Jvm.MethodName) jdk_68_method_22_code (3 : Nat) (Option.some (Jvm.ClassFile.FieldType.object "java/lang/AbstractStringBuilder")), Jvm.Cond.code ({ cls := "java/lang/String", name := "length", desc := "()I" } : Jvm.MethodName) jdk_42_method_54_code (1 : Nat) (Option.some Jvm.ClassFile.FieldType.int), Jvm.Cond.code ({ cls := "java/lang/String", name := "coder", desc := "()B" } : Jvm.MethodName) jdk_42_method_152_code (1 : Nat) (Option.some Jvm.ClassFile.FieldType.byte), Jvm.Cond.code ({ cls := "java/lang/AbstractStringBuilder", name := "ensureCapacityInternal", desc := "(I)V" } : Jvm.MethodName) jdk_68_method_9_code (3 : Nat) (Option.none : Option Jvm.ClassFile.FieldType), Jvm.Cond.code ({ cls := "java/lang/AbstractStringBuilder", name := "putStringAt", desc := "(ILjava/lang/String;)V" } : Jvm.MethodName) jdk_68_method_73_code (3 : Nat) (Option.none : Option Jvm.ClassFile.FieldType), Jvm.Cond.code ({ cls := "java/lang/AbstractStringBuilder", name := "inflateIfNeededFor", desc := "(Ljava/lang/String;)V" } : Jvm.MethodName) jdk_68_method_71_code (2 : Nat) (Option.none : Option Jvm.ClassFile.FieldType), Jvm.Cond.code ({ cls := "java/lang/String", name := "getBytes", desc := "([BIB)V" } : Jvm.MethodName) jdk_42_method_147_code (4 : Nat) (Option.none : Option Jvm.ClassFile.FieldType), Jvm.Cond.code ({ cls := "java/lang/AbstractStringBuilder", name := "newCapacity", desc := "(I)I" } : Jvm.MethodName) jdk_68_method_10_code (6 : Nat) (Option.some Jvm.ClassFile.FieldType.int), Jvm.Cond.code ({ cls := "jdk/internal/util/ArraysSupport", name := "newLength", desc := "(III)I" } : Jvm.MethodName) jdk_48_method_27_code (4 : Nat) (Option.some Jvm.ClassFile.FieldType.int), Jvm.Cond.code ({ cls := "java/lang/Math", name := "max", desc := "(II)I" } : Jvm.MethodName) jdk_29_method_65_code (2 : Nat) (Option.some Jvm.ClassFile.FieldType.int), Jvm.Cond.code ({ cls := "java/util/Arrays", name := "copyOf", desc := "([BI)[B" } : Jvm.MethodName) jdk_65_method_121_code (3 : Nat) (Option.some (Jvm.ClassFile.FieldType.array Jvm.ClassFile.FieldType.byte)), Jvm.Cond.code ({ cls := "java/lang/Math", name := "min", desc := "(II)I" } : Jvm.MethodName) jdk_29_method_69_code (2 : Nat) (Option.some Jvm.ClassFile.FieldType.int), Jvm.Cond.code ({ cls := "java/lang/StringBuilder", name := "toString", desc := "()Ljava/lang/String;" } : Jvm.MethodName) jdk_67_method_42_code (1 : Nat) (Option.some (Jvm.ClassFile.FieldType.object "java/lang/String")), Jvm.Cond.code ({ cls := "java/lang/String", name := "<init>", desc := "(Ljava/lang/StringBuilder;)V" } : Jvm.MethodName) jdk_42_method_53_code (2 : Nat) (Option.none : Option Jvm.ClassFile.FieldType), Jvm.Cond.code ({ cls := "java/lang/String", name := "<init>", desc := "(Ljava/lang/AbstractStringBuilder;Ljava/lang/Void;)V" } : Jvm.MethodName) jdk_42_method_150_code (5 : Nat) (Option.none : Option Jvm.ClassFile.FieldType), Jvm.Cond.code ({ cls := "java/lang/AbstractStringBuilder", name := "getValue", desc := "()[B" } : Jvm.MethodName) jdk_68_method_64_code (1 : Nat) (Option.some (Jvm.ClassFile.FieldType.array Jvm.ClassFile.FieldType.byte)), Jvm.Cond.code ({ cls := "java/lang/StringBuilder", name := "length", desc := "()I" } : Jvm.MethodName) jdk_67_method_93_code (1 : Nat) (Option.some Jvm.ClassFile.FieldType.int), Jvm.Cond.code ({ cls := "java/lang/AbstractStringBuilder", name := "length", desc := "()I" } : Jvm.MethodName) jdk_68_method_6_code (1 : Nat) (Option.some Jvm.ClassFile.FieldType.int), Jvm.Cond.code ({ cls := "java/lang/AbstractStringBuilder", name := "isLatin1", desc := "()Z" } : Jvm.MethodName) jdk_68_method_68_code (1 : Nat) (Option.some Jvm.ClassFile.FieldType.boolean), Jvm.Cond.code ({ cls := "java/util/Arrays", name := "copyOfRange", desc := "([BII)[B" } : Jvm.MethodName) jdk_65_method_132_code (3 : Nat) (Option.some (Jvm.ClassFile.FieldType.array Jvm.ClassFile.FieldType.byte)), Jvm.Cond.code ({ cls := "java/util/Arrays", name := "copyOfRangeByte", desc := "([BII)[B" } : Jvm.MethodName) jdk_65_method_133_code (5 : Nat) (Option.some (Jvm.ClassFile.FieldType.array Jvm.ClassFile.FieldType.byte)), Jvm.Cond.code ({ cls := "java/util/Arrays", name := "checkLength", desc := "(II)V" } : Jvm.MethodName) jdk_65_method_131_code (2 : Nat) (Option.none : Option Jvm.ClassFile.FieldType), Jvm.Cond.code ({ cls := "java/lang/IllegalArgumentException", name := "<init>", desc := "(Ljava/lang/String;)V" } : Jvm.MethodName) jdk_57_method_2_code (2 : Nat) (Option.none : Option Jvm.ClassFile.FieldType), Jvm.Cond.code ({ cls := "java/lang/RuntimeException", name := "<init>", desc := "(Ljava/lang/String;)V" } : Jvm.MethodName) jdk_58_method_2_code (2 : Nat) (Option.none : Option Jvm.ClassFile.FieldType), Jvm.Cond.code ({ cls := "java/lang/Exception", name := "<init>", desc := "(Ljava/lang/String;)V" } : Jvm.MethodName) jdk_59_method_2_code (2 : Nat) (Option.none : Option Jvm.ClassFile.FieldType), Jvm.Cond.code ({ cls := "java/lang/Throwable", name := "<init>", desc := "(Ljava/lang/String;)V" } : Jvm.MethodName) jdk_78_method_2_code (2 : Nat) (Option.none : Option Jvm.ClassFile.FieldType), Jvm.Cond.code ({ cls := "java/lang/Throwable", name := "<init>", desc := "()V" } : Jvm.MethodName) jdk_78_method_1_code (1 : Nat) (Option.none : Option Jvm.ClassFile.FieldType), Jvm.Cond.code ({ cls := "java/lang/Throwable", name := "getMessage", desc := "()Ljava/lang/String;" } : Jvm.MethodName) jdk_78_method_6_code (1 : Nat) (Option.some (Jvm.ClassFile.FieldType.object "java/lang/String")), Jvm.Cond.code ({ cls := "com/example/yusen/yusen/figures/ChecksNotPositivePinLaw", name := "expected", desc := "(ICCC)Ljava/lang/String;" } : Jvm.MethodName) method_3_code (4 : Nat) (Option.some (Jvm.ClassFile.FieldType.object "java/lang/String")), Jvm.Cond.code ({ cls := "java/lang/String", name := "equals", desc := "(Ljava/lang/Object;)Z" } : Jvm.MethodName) jdk_42_method_66_code (3 : Nat) (Option.some Jvm.ClassFile.FieldType.boolean), Jvm.Cond.code ({ cls := "java/lang/StringLatin1", name := "equals", desc := "([B[B)Z" } : Jvm.MethodName) jdk_43_method_13_code (3 : Nat) (Option.some Jvm.ClassFile.FieldType.boolean), Jvm.Cond.code ({ cls := "java/lang/StringUTF16", name := "compress", desc := "([CII)[B" } : Jvm.MethodName) jdk_52_method_16_code (6 : Nat) (Option.some (Jvm.ClassFile.FieldType.array Jvm.ClassFile.FieldType.byte)), Jvm.Cond.code ({ cls := "java/lang/StringUTF16", name := "compress", desc := "([CI[BII)I" } : Jvm.MethodName) jdk_52_method_21_code (7 : Nat) (Option.some Jvm.ClassFile.FieldType.int), Jvm.Cond.code ({ cls := "java/lang/StringUTF16", name := "coderFromArrayLen", desc := "([BI)B" } : Jvm.MethodName) jdk_52_method_15_code (2 : Nat) (Option.some Jvm.ClassFile.FieldType.byte), Jvm.Cond.code ({ cls := "java/lang/StringUTF16", name := "toBytes", desc := "([CII)[B" } : Jvm.MethodName) jdk_52_method_14_code (5 : Nat) (Option.some (Jvm.ClassFile.FieldType.array Jvm.ClassFile.FieldType.byte)), Jvm.Cond.code ({ cls := "java/lang/StringUTF16", name := "newBytesFor", desc := "(I)[B" } : Jvm.MethodName) jdk_52_method_2_code (1 : Nat) (Option.some (Jvm.ClassFile.FieldType.array Jvm.ClassFile.FieldType.byte)), Jvm.Cond.code ({ cls := "java/lang/StringUTF16", name := "newBytesLength", desc := "(I)I" } : Jvm.MethodName) jdk_52_method_3_code (1 : Nat) (Option.some Jvm.ClassFile.FieldType.int), Jvm.Cond.code ({ cls := "java/lang/StringUTF16", name := "putChar", desc := "([BII)V" } : Jvm.MethodName) jdk_52_method_4_code (3 : Nat) (Option.none : Option Jvm.ClassFile.FieldType), Jvm.Cond.code ({ cls := "java/lang/StringUTF16", name := "getChar", desc := "([BI)C" } : Jvm.MethodName) jdk_52_method_5_code (2 : Nat) (Option.some Jvm.ClassFile.FieldType.char), Jvm.Cond.code ({ cls := "java/lang/AbstractStringBuilder", name := "inflate", desc := "()V" } : Jvm.MethodName) jdk_68_method_11_code (2 : Nat) (Option.none : Option Jvm.ClassFile.FieldType), Jvm.Cond.code ({ cls := "java/lang/StringLatin1", name := "inflate", desc := "([BI[BII)V" } : Jvm.MethodName) jdk_43_method_50_code (5 : Nat) (Option.none : Option Jvm.ClassFile.FieldType), Jvm.Cond.code ({ cls := "java/lang/StringUTF16", name := "inflate", desc := "([BI[BII)V" } : Jvm.MethodName) jdk_52_method_86_code (6 : Nat) (Option.none : Option Jvm.ClassFile.FieldType), Jvm.Cond.code ({ cls := "java/lang/StringUTF16", name := "checkBoundsOffCount", desc := "(II[B)V" } : Jvm.MethodName) jdk_52_method_94_code (3 : Nat) (Option.none : Option Jvm.ClassFile.FieldType), Jvm.Cond.code ({ cls := "java/lang/StringUTF16", name := "length", desc := "([B)I" } : Jvm.MethodName) jdk_52_method_6_code (1 : Nat) (Option.some Jvm.ClassFile.FieldType.int), Jvm.Cond.code ({ cls := "java/lang/String", name := "checkBoundsOffCount", desc := "(III)I" } : Jvm.MethodName) jdk_42_method_157_code (3 : Nat) (Option.some Jvm.ClassFile.FieldType.int), Jvm.Cond.code ({ cls := "jdk/internal/util/Preconditions", name := "checkFromIndexSize", desc := "(IIILjava/util/function/BiFunction;)I" } : Jvm.MethodName) jdk_41_method_13_code (4 : Nat) (Option.some Jvm.ClassFile.FieldType.int), Jvm.Cond.code ({ cls := "java/lang/String", name := "valueOf", desc := "(C)Ljava/lang/String;" } : Jvm.MethodName) jdk_42_method_139_code (1 : Nat) (Option.some (Jvm.ClassFile.FieldType.object "java/lang/String")), Jvm.Cond.code ({ cls := "java/lang/StringLatin1", name := "canEncode", desc := "(C)Z" } : Jvm.MethodName) jdk_43_method_3_code (1 : Nat) (Option.some Jvm.ClassFile.FieldType.boolean), Jvm.Cond.code ({ cls := "java/lang/StringLatin1", name := "toBytes", desc := "(C)[B" } : Jvm.MethodName) jdk_43_method_46_code (1 : Nat) (Option.some (Jvm.ClassFile.FieldType.array Jvm.ClassFile.FieldType.byte)), Jvm.Cond.code ({ cls := "java/lang/String", name := "<init>", desc := "([BB)V" } : Jvm.MethodName) jdk_42_method_151_code (3 : Nat) (Option.none : Option Jvm.ClassFile.FieldType), Jvm.Cond.code ({ cls := "java/lang/StringUTF16", name := "toBytes", desc := "(C)[B" } : Jvm.MethodName) jdk_52_method_24_code (2 : Nat) (Option.some (Jvm.ClassFile.FieldType.array Jvm.ClassFile.FieldType.byte))]
set_option maxRecDepth 65536 in
theorem codes_eq : words1.filter isCode = codes1 := rfl
theorem w_codes : ∀ c ∈ words1.filter isCode, c.before args0 about1 = true := by
  rw [codes_eq]
  intro c hc
  simp only [codes1, List.mem_cons, List.not_mem_nil, or_false] at hc
  rcases hc with rfl | rfl | rfl | rfl | rfl | rfl | rfl | rfl | rfl | rfl | rfl | rfl | rfl | rfl | rfl | rfl | rfl | rfl | rfl | rfl | rfl | rfl | rfl | rfl | rfl | rfl | rfl | rfl | rfl | rfl | rfl | rfl | rfl | rfl | rfl | rfl | rfl | rfl | rfl | rfl | rfl | rfl | rfl | rfl | rfl | rfl | rfl | rfl | rfl | rfl | rfl | rfl | rfl | rfl | rfl | rfl | rfl | rfl | rfl
  · exact w_c0
  · exact w_c1
  · exact w_c2
  · exact w_c3
  · exact w_c4
  · exact w_c5
  · exact w_c6
  · exact w_c7
  · exact w_c8
  · exact w_c9
  · exact w_c10
  · exact w_c11
  · exact w_c12
  · exact w_c13
  · exact w_c14
  · exact w_c15
  · exact w_c16
  · exact w_c17
  · exact w_c18
  · exact w_c19
  · exact w_c20
  · exact w_c21
  · exact w_c22
  · exact w_c23
  · exact w_c24
  · exact w_c25
  · exact w_c26
  · exact w_c27
  · exact w_c28
  · exact w_c29
  · exact w_c30
  · exact w_c31
  · exact w_c32
  · exact w_c33
  · exact w_c34
  · exact w_c35
  · exact w_c36
  · exact w_c37
  · exact w_c38
  · exact w_c39
  · exact w_c40
  · exact w_c41
  · exact w_c42
  · exact w_c43
  · exact w_c44
  · exact w_c45
  · exact w_c46
  · exact w_c47
  · exact w_c48
  · exact w_c49
  · exact w_c50
  · exact w_c51
  · exact w_c52
  · exact w_c53
  · exact w_c54
  · exact w_c55
  · exact w_c56
  · exact w_c57
  · exact w_c58
set_option maxRecDepth 65536 in
theorem w_t1 : (words1.take 24).all (fun c => isCode c || c.before args0 about1) = true := by decide +kernel
set_option maxRecDepth 65536 in
theorem w_t2 : ((words1.drop 24).take 24).all (fun c => isCode c || c.before args0 about1) = true := by decide +kernel
set_option maxRecDepth 65536 in
theorem w_t3 : (((words1.drop 24).drop 24).take 24).all (fun c => isCode c || c.before args0 about1) = true := by decide +kernel
set_option maxRecDepth 65536 in
theorem w_t4 : ((((words1.drop 24).drop 24).drop 24).take 24).all (fun c => isCode c || c.before args0 about1) = true := by decide +kernel
set_option maxRecDepth 65536 in
theorem w_t5 : (((((words1.drop 24).drop 24).drop 24).drop 24).take 24).all (fun c => isCode c || c.before args0 about1) = true := by decide +kernel
set_option maxRecDepth 65536 in
theorem w_t6 : ((((((words1.drop 24).drop 24).drop 24).drop 24).drop 24).take 24).all (fun c => isCode c || c.before args0 about1) = true := by decide +kernel
set_option maxRecDepth 65536 in
theorem w_t7 : (((((((words1.drop 24).drop 24).drop 24).drop 24).drop 24).drop 24).take 24).all (fun c => isCode c || c.before args0 about1) = true := by decide +kernel
set_option maxRecDepth 65536 in
theorem w_t8 : ((((((((words1.drop 24).drop 24).drop 24).drop 24).drop 24).drop 24).drop 24).take 24).all (fun c => isCode c || c.before args0 about1) = true := by decide +kernel
set_option maxRecDepth 65536 in
theorem w_t9 : (((((((((words1.drop 24).drop 24).drop 24).drop 24).drop 24).drop 24).drop 24).drop 24).take 24).all (fun c => isCode c || c.before args0 about1) = true := by decide +kernel
set_option maxRecDepth 65536 in
theorem w_t10 : ((((((((((words1.drop 24).drop 24).drop 24).drop 24).drop 24).drop 24).drop 24).drop 24).drop 24).take 24).all (fun c => isCode c || c.before args0 about1) = true := by decide +kernel
set_option maxRecDepth 65536 in
theorem w_t11 : (((((((((((words1.drop 24).drop 24).drop 24).drop 24).drop 24).drop 24).drop 24).drop 24).drop 24).drop 24).take 24).all (fun c => isCode c || c.before args0 about1) = true := by decide +kernel
set_option maxRecDepth 65536 in
theorem w_t12 : ((((((((((((words1.drop 24).drop 24).drop 24).drop 24).drop 24).drop 24).drop 24).drop 24).drop 24).drop 24).drop 24).take 24).all (fun c => isCode c || c.before args0 about1) = true := by decide +kernel
set_option maxRecDepth 65536 in
theorem w_t13 : (((((((((((((words1.drop 24).drop 24).drop 24).drop 24).drop 24).drop 24).drop 24).drop 24).drop 24).drop 24).drop 24).drop 24).take 24).all (fun c => isCode c || c.before args0 about1) = true := by decide +kernel
set_option maxRecDepth 65536 in
theorem w_t14 : (((((((((((((words1.drop 24).drop 24).drop 24).drop 24).drop 24).drop 24).drop 24).drop 24).drop 24).drop 24).drop 24).drop 24).drop 24).all (fun c => isCode c || c.before args0 about1) = true := by decide +kernel
theorem w_tables : (allAtoms (Jvm.Cond.code x code maxLocals ret :: tables_1)).before args0 about1 = true := by
  rw [allAtoms_all]
  show words1.all (fun c => c.before args0 about1) = true
  refine all_split ?_ w_codes
  rw [← List.take_append_drop 24 words1, List.all_append, w_t1, ← List.take_append_drop 24 (words1.drop 24), List.all_append, w_t2, ← List.take_append_drop 24 ((words1.drop 24).drop 24), List.all_append, w_t3, ← List.take_append_drop 24 (((words1.drop 24).drop 24).drop 24), List.all_append, w_t4, ← List.take_append_drop 24 ((((words1.drop 24).drop 24).drop 24).drop 24), List.all_append, w_t5, ← List.take_append_drop 24 (((((words1.drop 24).drop 24).drop 24).drop 24).drop 24), List.all_append, w_t6, ← List.take_append_drop 24 ((((((words1.drop 24).drop 24).drop 24).drop 24).drop 24).drop 24), List.all_append, w_t7, ← List.take_append_drop 24 (((((((words1.drop 24).drop 24).drop 24).drop 24).drop 24).drop 24).drop 24), List.all_append, w_t8, ← List.take_append_drop 24 ((((((((words1.drop 24).drop 24).drop 24).drop 24).drop 24).drop 24).drop 24).drop 24), List.all_append, w_t9, ← List.take_append_drop 24 (((((((((words1.drop 24).drop 24).drop 24).drop 24).drop 24).drop 24).drop 24).drop 24).drop 24), List.all_append, w_t10, ← List.take_append_drop 24 ((((((((((words1.drop 24).drop 24).drop 24).drop 24).drop 24).drop 24).drop 24).drop 24).drop 24).drop 24), List.all_append, w_t11, ← List.take_append_drop 24 (((((((((((words1.drop 24).drop 24).drop 24).drop 24).drop 24).drop 24).drop 24).drop 24).drop 24).drop 24).drop 24), List.all_append, w_t12, ← List.take_append_drop 24 ((((((((((((words1.drop 24).drop 24).drop 24).drop 24).drop 24).drop 24).drop 24).drop 24).drop 24).drop 24).drop 24).drop 24), List.all_append, w_t13, w_t14]
  rfl
set_option maxRecDepth 65536 in
theorem w_rest : rest_1_c.before args0 about1 = true := by decide +kernel
set_option maxRecDepth 65536 in
theorem w_case : (Jvm.Cond.and given_1 narrow_1).before args0 about1 = true := by decide +kernel
set_option maxRecDepth 65536 in
theorem w_consts : constsHeld consts_1 about1 := Jvm.Lit.constsHeldB_iff.mp (by decide +kernel)
theorem w_applies : (headSpec (Jvm.Cond.code x code maxLocals ret :: tables_1) room_1).applies x e0.platform about1 = true :=
  (Spec.applies_iff w_frames).mpr ⟨w_running, w_runnable, w_alone, w_named, w_hears, w_ripe, w_room, w_tables⟩
theorem atStart : AtStart classFile x code maxLocals ret World_1 tables_1 room_1 Calls_1 rest_1 Pre_1 launch0 p0 e0 about1 theMethod args0 below0 :=
  ⟨lists_1, trivial, launch0.admits_env _ _ _, launch0.least_env, fairChoices_fair.cas, fairChoices_fair.clock, w_frames, w_args, w_heap, w_applies, ⟨(by decide +kernel : framesKnown about1 = true), ⟨(by decide +kernel : tablesKnown about1 = true), ⟨w_consts, trivial⟩⟩⟩, w_rest, w_case⟩
end start1
theorem witness_1 : WitnessClaimed_1 := ⟨start1.p0, start1.e0, start1.about1, start1.theMethod, start1.args0, start1.below0, start1.atStart⟩
end Jvm.Pilot.@@N@@
