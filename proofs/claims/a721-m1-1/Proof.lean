import JvmDerived
import JvmDerived.Pilot.@@N@@Statement
import JvmDerived.Pilot.@@N@@Code
set_option linter.unusedVariables false
set_option linter.unusedSimpArgs false
namespace Jvm.Own
open Jvm Jvm.ClassFile Sem Op Lib Jvm.Free Jvm.Stand Jvm.LawKit Jvm.RoadKit Bundle
/-! The walk's own layer: 'On' bears all that a walk knows of where it stands, 'Go' is what is left to show; one law an instruction, in the shape 'Go behind it gives Go ahead of it'. -/
abbrev Cx : Type := Program × Launch × Env × State × MethodId × Array Value × List Frame × Method × Code
abbrev Cx.p (C : Cx) : Program := C.1
abbrev Cx.l (C : Cx) : Launch := C.2.1
abbrev Cx.e (C : Cx) : Env := C.2.2.1
abbrev Cx.s (C : Cx) : State := C.2.2.2.1
abbrev Cx.m (C : Cx) : MethodId := C.2.2.2.2.1
abbrev Cx.args (C : Cx) : Array Value := C.2.2.2.2.2.1
abbrev Cx.below (C : Cx) : List Frame := C.2.2.2.2.2.2.1
abbrev Cx.meth (C : Cx) : Method := C.2.2.2.2.2.2.2.1
abbrev Cx.c (C : Cx) : Code := C.2.2.2.2.2.2.2.2
/-- an instruction of the body b -/
def Ins (b : ByteArray) (pc : Nat) (i : Instr) (len pc' : Nat) : Prop := decode b pc = .ok (i, len) ∧ pc + len = pc'
/-- where a branch goes -/
def Jmp (pc : Nat) (o : Int) (pc' : Nat) : Prop := 0 ≤ (pc : Int) + o ∧ ((pc : Int) + o).toNat = pc'
/-- the frame of an end -/
def EndQ (q : Bool) (s : State) (o : Outcome) (t : State) (L : List Loc) (k n : Nat) : Prop := ReturnedEndW s o t L k n ∧ (q = true → FrameEnd s o t L k n)
def On (C : Cx) (R : Room) (own : String) (b : ByteArray) (ml : Nat) (rt : Option FieldType) (nm : String) (q : Bool) (Z : State) (a0 : Array Value) (EL : List (String × Nat)) (n0 : Nat) (vm : Vm) (T : State) (h : Heap) (k n : Nat) : Prop :=
  (∃ (k0 : Nat) (locs : List Loc), Stand C.p C.l C.e R (C.s.setVm vm) C.m C.args C.below C.meth C.c T locs k n ∧ Fr n0 locs ∧ C.s.Since vm k0 ∧ k0 ≤ h.size) ∧ T.heap = h ∧ C.p.tables.exec = Jvm.exec ∧ C.c.code = b ∧ C.c.maxLocals = ml ∧ C.meth.sig.returnType = rt ∧ C.meth.name = nm ∧ C.meth.locks = false ∧
    Z.Warmed39 vm ∧ vm.findClass own = some C.m.cls ∧ EW Z a0 EL ∧ CHr Z EL C.s.vm C.s.heap vm h ∧ (q = true → C.s.WarmedH vm) ∧ Old Z n0 h
def Go (C : Cx) (R : Room) (q : Bool) (Z : State) (EL : List (String × Nat)) (n0 : Nat) (Q : Option Value → Heap → Prop) (T : State) (pc : Nat) (Ls : Array Slot) (st : List Value) : Prop :=
  ∃ s₂ o, Steps C.p.tables C.e C.below (T.setTop (mkF C.m pc Ls st)) s₂ ∧ s₂.status = .running ∧ Ended s₂ C.below o ∧ ∃ v L, o = .returned v ∧ (Q v s₂.heap ∧ Fr n0 L ∧ Old Z n0 s₂.heap) ∧ CHr Z EL C.s.vm C.s.heap s₂.vm s₂.heap ∧ EndQ q C.s o s₂ L R.cells R.slots
section Laws
variable {C : Cx} {R : Room} {own : String} {b : ByteArray} {ml : Nat} {rt : Option FieldType} {nm : String} {q : Bool} {Z : State} {a0 : Array Value} {EL : List (String × Nat)} {n0 : Nat} {vm : Vm} {T : State} {h : Heap} {k n : Nat} {Q : Option Value → Heap → Prop} {pc pc' pt : Nat} {Ls Ls' : Array Slot} {st : List Value}
theorem Go.of {T' : State} {Ls' : Array Slot} {st' : List Value} (f : ∀ t, Steps C.p.tables C.e C.below (T'.setTop (mkF C.m pc' Ls' st')) t → Steps C.p.tables C.e C.below (T.setTop (mkF C.m pc Ls st)) t) (g : Go C R q Z EL n0 Q T' pc' Ls' st') : Go C R q Z EL n0 Q T pc Ls st := by
  obtain ⟨s2, o, hs, r⟩ := g
  exact ⟨s2, o, f _ hs, r⟩
theorem On.here (X : On C R own b ml rt nm q Z a0 EL n0 vm T h k n) : At T C.m C.c C.below := by
  obtain ⟨⟨_, _, S, -⟩, -⟩ := X; exact S.here
theorem On.exec (X : On C R own b ml rt nm q Z a0 EL n0 vm T h k n) : C.p.tables.exec = Jvm.exec := X.2.2.1
theorem On.dec (X : On C R own b ml rt nm q Z a0 EL n0 vm T h k n) {i : Instr} {len : Nat} (hi : Ins b pc i len pc') : decode C.c.code pc = .ok (i, len) := by rw [X.2.2.2.1]; exact hi.1
theorem On.zw (X : On C R own b ml rt nm q Z a0 EL n0 vm T h k n) : Z.Warmed39 vm := X.2.2.2.2.2.2.2.2.1
theorem On.owned (X : On C R own b ml rt nm q Z a0 EL n0 vm T h k n) : vm.findClass own = some C.m.cls := X.2.2.2.2.2.2.2.2.2.1
theorem On.ew (X : On C R own b ml rt nm q Z a0 EL n0 vm T h k n) : EW Z a0 EL := X.2.2.2.2.2.2.2.2.2.2.1
theorem On.chr (X : On C R own b ml rt nm q Z a0 EL n0 vm T h k n) : CHr Z EL C.s.vm C.s.heap vm h := X.2.2.2.2.2.2.2.2.2.2.2.1
theorem On.chv (X : On C R own b ml rt nm q Z a0 EL n0 vm T h k n) : CHv Z EL vm h := X.chr.1
theorem On.warm (X : On C R own b ml rt nm q Z a0 EL n0 vm T h k n) : q = true → C.s.WarmedH vm := X.2.2.2.2.2.2.2.2.2.2.2.2.1
theorem On.old (X : On C R own b ml rt nm q Z a0 EL n0 vm T h k n) : Old Z n0 h := X.2.2.2.2.2.2.2.2.2.2.2.2.2
theorem On.n0le (X : On C R own b ml rt nm q Z a0 EL n0 vm T h k n) : n0 ≤ h.size := X.old.1 ▸ X.old.2.1
theorem On.ext0 (X : On C R own b ml rt nm q Z a0 EL n0 vm T h k n) : Ext Z.heap h := X.old.2
theorem On.eT (X : On C R own b ml rt nm q Z a0 EL n0 vm T h k n) : T.heap = h := X.2.1
theorem On.put (X : On C R own b ml rt nm q Z a0 EL n0 vm T h k n) {T' : State} {h' : Heap} {k' n' k0 : Nat} {locs' : List Loc} (S' : Stand C.p C.l C.e R (C.s.setVm vm) C.m C.args C.below C.meth C.c T' locs' k' n') (N' : Fr n0 locs') (hS : C.s.Since vm k0) (hk : k0 ≤ h.size)
    (e' : T'.heap = h') (hc : CHr Z EL vm h vm h') (hO : Old Z n0 h') : On C R own b ml rt nm q Z a0 EL n0 vm T' h' k' n' := by
  obtain ⟨-, -, e2, e3, e4, e5, e6, e7, e8, e9, e10, e11, e12, e13⟩ := X
  exact ⟨⟨k0, locs', S', N', hS, Nat.le_trans hk hc.2.1⟩, e', e2, e3, e4, e5, e6, e7, e8, e9, e10, e11.trans hc, e12, hO⟩
theorem On.more (X : On C R own b ml rt nm q Z a0 EL n0 vm T h k n) {k' n' : Nat} (hk : k ≤ k') (hn : n ≤ n') : On C R own b ml rt nm q Z a0 EL n0 vm T h k' n' := by
  obtain ⟨⟨k0, locs, S, N, hS, hk0⟩, -⟩ := id X
  exact X.put (S.more hk hn) N hS hk0 X.eT (CHr.refl X.chv) X.old
/-! ### plain steps -/
theorem On.aload_n (X : On C R own b ml rt nm q Z a0 EL n0 vm T h k n) {j : Fin 4} {v : Value} (hi : Ins b pc (.aload_n j) 1 pc') (hl : Ls[j.val]? = some (.val v)) (hv : v.isRef = true) (g : Go C R q Z EL n0 Q T pc' Ls (v :: st)) : Go C R q Z EL n0 Q T pc Ls st := by
  obtain ⟨-, rfl⟩ := id hi; exact Go.of (fun t z => XS.aloadN X.here X.exec rfl (X.dec hi) hl hv z) g
theorem On.aload (X : On C R own b ml rt nm q Z a0 EL n0 vm T h k n) {j : Nat} {v : Value} (hi : Ins b pc (.aload j) 2 pc') (hl : Ls[j]? = some (.val v)) (hv : v.isRef = true) (g : Go C R q Z EL n0 Q T pc' Ls (v :: st)) : Go C R q Z EL n0 Q T pc Ls st := by
  obtain ⟨-, rfl⟩ := id hi; exact Go.of (fun t z => XS.aload X.here X.exec rfl (X.dec hi) hl hv z) g
theorem On.iload_n (X : On C R own b ml rt nm q Z a0 EL n0 vm T h k n) {j : Fin 4} {v : Int32} (hi : Ins b pc (.iload_n j) 1 pc') (hl : Ls[j.val]? = some (.val (.int v))) (g : Go C R q Z EL n0 Q T pc' Ls (.int v :: st)) : Go C R q Z EL n0 Q T pc Ls st := by
  obtain ⟨-, rfl⟩ := id hi; exact Go.of (fun t z => XS.iloadN X.here X.exec rfl (X.dec hi) hl z) g
theorem On.iload (X : On C R own b ml rt nm q Z a0 EL n0 vm T h k n) {j : Nat} {v : Int32} (hi : Ins b pc (.iload j) 2 pc') (hl : Ls[j]? = some (.val (.int v))) (g : Go C R q Z EL n0 Q T pc' Ls (.int v :: st)) : Go C R q Z EL n0 Q T pc Ls st := by
  obtain ⟨-, rfl⟩ := id hi; exact Go.of (fun t z => XS.iload X.here X.exec rfl (X.dec hi) hl z) g
theorem On.lload_n (X : On C R own b ml rt nm q Z a0 EL n0 vm T h k n) {j : Fin 4} {v : Int64} (hi : Ins b pc (.lload_n j) 1 pc') (hl : Ls[j.val]? = some (.val (.long v))) (g : Go C R q Z EL n0 Q T pc' Ls (.long v :: st)) : Go C R q Z EL n0 Q T pc Ls st := by
  obtain ⟨-, rfl⟩ := id hi; exact Go.of (fun t z => XS.lloadN X.here X.exec rfl (X.dec hi) hl z) g
theorem On.lload (X : On C R own b ml rt nm q Z a0 EL n0 vm T h k n) {j : Nat} {v : Int64} (hi : Ins b pc (.lload j) 2 pc') (hl : Ls[j]? = some (.val (.long v))) (g : Go C R q Z EL n0 Q T pc' Ls (.long v :: st)) : Go C R q Z EL n0 Q T pc Ls st := by
  obtain ⟨-, rfl⟩ := id hi; exact Go.of (fun t z => XS.lload X.here X.exec rfl (X.dec hi) hl z) g
theorem On.iconst (X : On C R own b ml rt nm q Z a0 EL n0 vm T h k n) {i : Int} {z : Int32} (hi : Ins b pc (.iconst i) 1 pc') (hz : Int32.ofInt i = z) (g : Go C R q Z EL n0 Q T pc' Ls (.int z :: st)) : Go C R q Z EL n0 Q T pc Ls st := by
  subst hz; obtain ⟨-, rfl⟩ := id hi; exact Go.of (fun t z => XS.iconst X.here X.exec rfl (X.dec hi) z) g
theorem On.bipush (X : On C R own b ml rt nm q Z a0 EL n0 vm T h k n) {i : Int} {z : Int32} (hi : Ins b pc (.bipush i) 2 pc') (hz : (Int8.ofInt i).toInt32 = z) (g : Go C R q Z EL n0 Q T pc' Ls (.int z :: st)) : Go C R q Z EL n0 Q T pc Ls st := by
  subst hz; obtain ⟨-, rfl⟩ := id hi; exact Go.of (fun t z => XS.bipush X.here X.exec rfl (X.dec hi) z) g
theorem On.sipush (X : On C R own b ml rt nm q Z a0 EL n0 vm T h k n) {i : Int} {z : Int32} (hi : Ins b pc (.sipush i) 3 pc') (hz : (Int16.ofInt i).toInt32 = z) (g : Go C R q Z EL n0 Q T pc' Ls (.int z :: st)) : Go C R q Z EL n0 Q T pc Ls st := by
  subst hz; obtain ⟨-, rfl⟩ := id hi; exact Go.of (fun t z => XS.sipush X.here X.exec rfl (X.dec hi) z) g
theorem On.lconst (X : On C R own b ml rt nm q Z a0 EL n0 vm T h k n) {i : Fin 2} {z : Int64} (hi : Ins b pc (.lconst i) 1 pc') (hz : Int64.ofNat i = z) (g : Go C R q Z EL n0 Q T pc' Ls (.long z :: st)) : Go C R q Z EL n0 Q T pc Ls st := by
  subst hz; obtain ⟨-, rfl⟩ := id hi; exact Go.of (fun t z => XS.lconst X.here X.exec rfl (X.dec hi) z) g
theorem On.aconst_null (X : On C R own b ml rt nm q Z a0 EL n0 vm T h k n) (hi : Ins b pc .aconst_null 1 pc') (g : Go C R q Z EL n0 Q T pc' Ls (.null :: st)) : Go C R q Z EL n0 Q T pc Ls st := by
  obtain ⟨-, rfl⟩ := id hi; exact Go.of (fun t z => XS.aconstNull X.here X.exec rfl (X.dec hi) z) g
theorem On.istore_n (X : On C R own b ml rt nm q Z a0 EL n0 vm T h k n) {j : Fin 4} {x : Int32} (hi : Ins b pc (.istore_n j) 1 pc') (hl : storeLocals Ls j.val (.int x) = some Ls') (g : Go C R q Z EL n0 Q T pc' Ls' st) : Go C R q Z EL n0 Q T pc Ls (.int x :: st) := by
  obtain ⟨-, rfl⟩ := id hi; exact Go.of (fun t z => XS.istoreN X.here X.exec rfl (X.dec hi) rfl hl z) g
theorem On.istore (X : On C R own b ml rt nm q Z a0 EL n0 vm T h k n) {j : Nat} {x : Int32} (hi : Ins b pc (.istore j) 2 pc') (hl : storeLocals Ls j (.int x) = some Ls') (g : Go C R q Z EL n0 Q T pc' Ls' st) : Go C R q Z EL n0 Q T pc Ls (.int x :: st) := by
  obtain ⟨-, rfl⟩ := id hi; exact Go.of (fun t z => XS.istore X.here X.exec rfl (X.dec hi) rfl hl z) g
theorem On.lstore_n (X : On C R own b ml rt nm q Z a0 EL n0 vm T h k n) {j : Fin 4} {x : Int64} (hi : Ins b pc (.lstore_n j) 1 pc') (hl : storeLocals Ls j.val (.long x) = some Ls') (g : Go C R q Z EL n0 Q T pc' Ls' st) : Go C R q Z EL n0 Q T pc Ls (.long x :: st) := by
  obtain ⟨-, rfl⟩ := id hi; exact Go.of (fun t z => XS.lstoreN X.here X.exec rfl (X.dec hi) rfl hl z) g
theorem On.astore_n (X : On C R own b ml rt nm q Z a0 EL n0 vm T h k n) {j : Fin 4} {x : Value} (hi : Ins b pc (.astore_n j) 1 pc') (hv : x.isRef = true) (hl : storeLocals Ls j.val x = some Ls') (g : Go C R q Z EL n0 Q T pc' Ls' st) : Go C R q Z EL n0 Q T pc Ls (x :: st) := by
  obtain ⟨-, rfl⟩ := id hi; exact Go.of (fun t z => XS.astoreN X.here X.exec rfl (X.dec hi) rfl hv hl z) g
theorem On.astore (X : On C R own b ml rt nm q Z a0 EL n0 vm T h k n) {j : Nat} {x : Value} (hi : Ins b pc (.astore j) 2 pc') (hv : x.isRef = true) (hl : storeLocals Ls j x = some Ls') (g : Go C R q Z EL n0 Q T pc' Ls' st) : Go C R q Z EL n0 Q T pc Ls (x :: st) := by
  obtain ⟨-, rfl⟩ := id hi; exact Go.of (fun t z => XS.astore X.here X.exec rfl (X.dec hi) rfl hv hl z) g
theorem On.iinc (X : On C R own b ml rt nm q Z a0 EL n0 vm T h k n) {j : Nat} {cst : Int} {x y : Int32} (hi : Ins b pc (.iinc j cst) 3 pc') (hl : Ls[j]? = some (.val (.int x))) (hz : x + Int32.ofInt cst = y) (hl' : storeLocals Ls j (.int y) = some Ls') (g : Go C R q Z EL n0 Q T pc' Ls' st) : Go C R q Z EL n0 Q T pc Ls st := by
  subst hz; obtain ⟨-, rfl⟩ := id hi; exact Go.of (fun t z => XS.iinc X.here X.exec rfl (X.dec hi) hl hl' z) g
theorem On.dup (X : On C R own b ml rt nm q Z a0 EL n0 vm T h k n) {x : Value} (hi : Ins b pc .dup 1 pc') (hc : x.category = 1) (g : Go C R q Z EL n0 Q T pc' Ls (x :: x :: st)) : Go C R q Z EL n0 Q T pc Ls (x :: st) := by
  obtain ⟨-, rfl⟩ := id hi; exact Go.of (fun t z => XS.dup X.here X.exec rfl (X.dec hi) rfl hc z) g
theorem On.dup_x1 (X : On C R own b ml rt nm q Z a0 EL n0 vm T h k n) {x y : Value} (hi : Ins b pc .dup_x1 1 pc') (hc : x.category = 1) (hc' : y.category = 1) (g : Go C R q Z EL n0 Q T pc' Ls (x :: y :: x :: st)) : Go C R q Z EL n0 Q T pc Ls (x :: y :: st) := by
  obtain ⟨-, rfl⟩ := id hi; exact Go.of (fun t z => XS.dupX1 X.here X.exec rfl (X.dec hi) rfl hc hc' z) g
theorem On.dup2 (X : On C R own b ml rt nm q Z a0 EL n0 vm T h k n) {x y : Value} (hi : Ins b pc .dup2 1 pc') (hc : x.category = 1) (hc' : y.category = 1) (g : Go C R q Z EL n0 Q T pc' Ls (x :: y :: x :: y :: st)) : Go C R q Z EL n0 Q T pc Ls (x :: y :: st) := by
  obtain ⟨-, rfl⟩ := id hi; exact Go.of (fun t z => XT.dup2 X.here X.exec rfl (X.dec hi) rfl hc hc' z) g
theorem On.pop (X : On C R own b ml rt nm q Z a0 EL n0 vm T h k n) {x : Value} (hi : Ins b pc .pop 1 pc') (hc : x.category = 1) (g : Go C R q Z EL n0 Q T pc' Ls st) : Go C R q Z EL n0 Q T pc Ls (x :: st) := by
  obtain ⟨-, rfl⟩ := id hi; exact Go.of (fun t z => XS.pop X.here X.exec rfl (X.dec hi) rfl hc z) g
theorem On.iadd (X : On C R own b ml rt nm q Z a0 EL n0 vm T h k n) {x y z : Int32} (hi : Ins b pc .iadd 1 pc') (hz : x + y = z) (g : Go C R q Z EL n0 Q T pc' Ls (.int z :: st)) : Go C R q Z EL n0 Q T pc Ls (.int y :: .int x :: st) := by
  subst hz; obtain ⟨-, rfl⟩ := id hi; exact Go.of (fun t z => XS.iadd X.here X.exec rfl (X.dec hi) rfl z) g
theorem On.isub (X : On C R own b ml rt nm q Z a0 EL n0 vm T h k n) {x y z : Int32} (hi : Ins b pc .isub 1 pc') (hz : x - y = z) (g : Go C R q Z EL n0 Q T pc' Ls (.int z :: st)) : Go C R q Z EL n0 Q T pc Ls (.int y :: .int x :: st) := by
  subst hz; obtain ⟨-, rfl⟩ := id hi; exact Go.of (fun t z => XS.isub X.here X.exec rfl (X.dec hi) rfl z) g
theorem On.imul (X : On C R own b ml rt nm q Z a0 EL n0 vm T h k n) {x y z : Int32} (hi : Ins b pc .imul 1 pc') (hz : x * y = z) (g : Go C R q Z EL n0 Q T pc' Ls (.int z :: st)) : Go C R q Z EL n0 Q T pc Ls (.int y :: .int x :: st) := by
  subst hz; obtain ⟨-, rfl⟩ := id hi; exact Go.of (fun t z => XS.imul X.here X.exec rfl (X.dec hi) rfl z) g
theorem On.iand (X : On C R own b ml rt nm q Z a0 EL n0 vm T h k n) {x y z : Int32} (hi : Ins b pc .iand 1 pc') (hz : x &&& y = z) (g : Go C R q Z EL n0 Q T pc' Ls (.int z :: st)) : Go C R q Z EL n0 Q T pc Ls (.int y :: .int x :: st) := by
  subst hz; obtain ⟨-, rfl⟩ := id hi; exact Go.of (fun t z => XS.iand X.here X.exec rfl (X.dec hi) rfl z) g
theorem On.ior (X : On C R own b ml rt nm q Z a0 EL n0 vm T h k n) {x y z : Int32} (hi : Ins b pc .ior 1 pc') (hz : x ||| y = z) (g : Go C R q Z EL n0 Q T pc' Ls (.int z :: st)) : Go C R q Z EL n0 Q T pc Ls (.int y :: .int x :: st) := by
  subst hz; obtain ⟨-, rfl⟩ := id hi; exact Go.of (fun t z => XS.ior X.here X.exec rfl (X.dec hi) rfl z) g
theorem On.ixor (X : On C R own b ml rt nm q Z a0 EL n0 vm T h k n) {x y z : Int32} (hi : Ins b pc .ixor 1 pc') (hz : x ^^^ y = z) (g : Go C R q Z EL n0 Q T pc' Ls (.int z :: st)) : Go C R q Z EL n0 Q T pc Ls (.int y :: .int x :: st) := by
  subst hz; obtain ⟨-, rfl⟩ := id hi; exact Go.of (fun t z => XS.ixor X.here X.exec rfl (X.dec hi) rfl z) g
theorem On.ishl (X : On C R own b ml rt nm q Z a0 EL n0 vm T h k n) {x y z : Int32} (hi : Ins b pc .ishl 1 pc') (hz : x <<< (y &&& 31) = z) (g : Go C R q Z EL n0 Q T pc' Ls (.int z :: st)) : Go C R q Z EL n0 Q T pc Ls (.int y :: .int x :: st) := by
  subst hz; obtain ⟨-, rfl⟩ := id hi; exact Go.of (fun t z => XS.ishl X.here X.exec rfl (X.dec hi) rfl z) g
theorem On.ishr (X : On C R own b ml rt nm q Z a0 EL n0 vm T h k n) {x y z : Int32} (hi : Ins b pc .ishr 1 pc') (hz : x >>> (y &&& 31) = z) (g : Go C R q Z EL n0 Q T pc' Ls (.int z :: st)) : Go C R q Z EL n0 Q T pc Ls (.int y :: .int x :: st) := by
  subst hz; obtain ⟨-, rfl⟩ := id hi; exact Go.of (fun t z => XS.ishr X.here X.exec rfl (X.dec hi) rfl z) g
theorem On.iushr (X : On C R own b ml rt nm q Z a0 EL n0 vm T h k n) {x y z : Int32} (hi : Ins b pc .iushr 1 pc') (hz : (x.toUInt32 >>> (y &&& 31).toUInt32).toInt32 = z) (g : Go C R q Z EL n0 Q T pc' Ls (.int z :: st)) : Go C R q Z EL n0 Q T pc Ls (.int y :: .int x :: st) := by
  subst hz; obtain ⟨-, rfl⟩ := id hi; exact Go.of (fun t z => XS.iushr X.here X.exec rfl (X.dec hi) rfl z) g
theorem On.irem (X : On C R own b ml rt nm q Z a0 EL n0 vm T h k n) {x y z : Int32} (hi : Ins b pc .irem 1 pc') (hy : y ≠ 0) (hz : x % y = z) (g : Go C R q Z EL n0 Q T pc' Ls (.int z :: st)) : Go C R q Z EL n0 Q T pc Ls (.int y :: .int x :: st) := by
  subst hz; obtain ⟨-, rfl⟩ := id hi
  obtain ⟨⟨k0, locs, S, -⟩, -⟩ := id X
  exact Go.of (fun t z => iremM S X.exec rfl (X.dec hi) rfl hy z) g
theorem On.idiv (X : On C R own b ml rt nm q Z a0 EL n0 vm T h k n) {x y z : Int32} (hi : Ins b pc .idiv 1 pc') (hy : y ≠ 0) (hz : x / y = z) (g : Go C R q Z EL n0 Q T pc' Ls (.int z :: st)) : Go C R q Z EL n0 Q T pc Ls (.int y :: .int x :: st) := by
  subst hz; obtain ⟨-, rfl⟩ := id hi; exact Go.of (fun t z => XS.idiv X.here X.exec rfl (X.dec hi) rfl hy z) g
theorem On.i2c (X : On C R own b ml rt nm q Z a0 EL n0 vm T h k n) {x z : Int32} (hi : Ins b pc .i2c 1 pc') (hz : x.toUInt32.toUInt16.toUInt32.toInt32 = z) (g : Go C R q Z EL n0 Q T pc' Ls (.int z :: st)) : Go C R q Z EL n0 Q T pc Ls (.int x :: st) := by
  subst hz; obtain ⟨-, rfl⟩ := id hi; exact Go.of (fun t z => XS.i2c X.here X.exec rfl (X.dec hi) rfl z) g
theorem On.i2b (X : On C R own b ml rt nm q Z a0 EL n0 vm T h k n) {x z : Int32} (hi : Ins b pc .i2b 1 pc') (hz : x.toInt8.toInt32 = z) (g : Go C R q Z EL n0 Q T pc' Ls (.int z :: st)) : Go C R q Z EL n0 Q T pc Ls (.int x :: st) := by
  subst hz; obtain ⟨-, rfl⟩ := id hi; exact Go.of (fun t z => XS.i2b X.here X.exec rfl (X.dec hi) rfl z) g
theorem On.i2l (X : On C R own b ml rt nm q Z a0 EL n0 vm T h k n) {x : Int32} {z : Int64} (hi : Ins b pc .i2l 1 pc') (hz : x.toInt64 = z) (g : Go C R q Z EL n0 Q T pc' Ls (.long z :: st)) : Go C R q Z EL n0 Q T pc Ls (.int x :: st) := by
  subst hz; obtain ⟨-, rfl⟩ := id hi; exact Go.of (fun t z => XS.i2l X.here X.exec rfl (X.dec hi) rfl z) g
theorem On.l2i (X : On C R own b ml rt nm q Z a0 EL n0 vm T h k n) {x : Int64} {z : Int32} (hi : Ins b pc .l2i 1 pc') (hz : x.toInt32 = z) (g : Go C R q Z EL n0 Q T pc' Ls (.int z :: st)) : Go C R q Z EL n0 Q T pc Ls (.long x :: st) := by
  subst hz; obtain ⟨-, rfl⟩ := id hi; exact Go.of (fun t z => XS.l2i X.here X.exec rfl (X.dec hi) rfl z) g
theorem On.ladd (X : On C R own b ml rt nm q Z a0 EL n0 vm T h k n) {x y z : Int64} (hi : Ins b pc .ladd 1 pc') (hz : x + y = z) (g : Go C R q Z EL n0 Q T pc' Ls (.long z :: st)) : Go C R q Z EL n0 Q T pc Ls (.long y :: .long x :: st) := by
  subst hz; obtain ⟨-, rfl⟩ := id hi; exact Go.of (fun t z => XS.ladd X.here X.exec rfl (X.dec hi) rfl z) g
theorem On.lcmp (X : On C R own b ml rt nm q Z a0 EL n0 vm T h k n) {x y : Int64} {z : Int32} (hi : Ins b pc .lcmp 1 pc') (hz : lcmpW x y = z) (g : Go C R q Z EL n0 Q T pc' Ls (.int z :: st)) : Go C R q Z EL n0 Q T pc Ls (.long y :: .long x :: st) := by
  subst hz; obtain ⟨-, rfl⟩ := id hi; exact Go.of (fun t z => XS.lcmp X.here X.exec rfl (X.dec hi) rfl z) g
theorem On.goto (X : On C R own b ml rt nm q Z a0 EL n0 vm T h k n) {o : Int} (hi : Ins b pc (.goto o) 3 pc') (hj : Jmp pc o pt) (g : Go C R q Z EL n0 Q T pt Ls st) : Go C R q Z EL n0 Q T pc Ls st :=
  Go.of (fun t z => XS.goto X.here X.exec rfl rfl (X.dec hi) hj.1 hj.2 z) g
theorem On.ifY (X : On C R own b ml rt nm q Z a0 EL n0 vm T h k n) {cd : ClassFile.Cond} {o : Int} {x : Int32} (hi : Ins b pc (.ifCond cd o) 3 pc') (hj : Jmp pc o pt) (hc : ifCond.holds cd x = true) (g : Go C R q Z EL n0 Q T pt Ls st) : Go C R q Z EL n0 Q T pc Ls (.int x :: st) :=
  Go.of (fun t z => XS.ifYes X.here X.exec rfl rfl (X.dec hi) rfl hc hj.1 hj.2 z) g
theorem On.ifN (X : On C R own b ml rt nm q Z a0 EL n0 vm T h k n) {cd : ClassFile.Cond} {o : Int} {x : Int32} (hi : Ins b pc (.ifCond cd o) 3 pc') (hc : ifCond.holds cd x = false) (g : Go C R q Z EL n0 Q T pc' Ls st) : Go C R q Z EL n0 Q T pc Ls (.int x :: st) := by
  obtain ⟨-, rfl⟩ := id hi; exact Go.of (fun t z => XS.ifNo X.here X.exec rfl (X.dec hi) rfl hc z) g
theorem On.icY (X : On C R own b ml rt nm q Z a0 EL n0 vm T h k n) {cd : ClassFile.Cond} {o : Int} {x y : Int32} (hi : Ins b pc (.if_icmp cd o) 3 pc') (hj : Jmp pc o pt) (hc : if_icmp.holds cd x y = true) (g : Go C R q Z EL n0 Q T pt Ls st) : Go C R q Z EL n0 Q T pc Ls (.int y :: .int x :: st) :=
  Go.of (fun t z => XS.icmpYes X.here X.exec rfl rfl (X.dec hi) rfl hc hj.1 hj.2 z) g
theorem On.icN (X : On C R own b ml rt nm q Z a0 EL n0 vm T h k n) {cd : ClassFile.Cond} {o : Int} {x y : Int32} (hi : Ins b pc (.if_icmp cd o) 3 pc') (hc : if_icmp.holds cd x y = false) (g : Go C R q Z EL n0 Q T pc' Ls st) : Go C R q Z EL n0 Q T pc Ls (.int y :: .int x :: st) := by
  obtain ⟨-, rfl⟩ := id hi; exact Go.of (fun t z => XS.icmpNo X.here X.exec rfl (X.dec hi) rfl hc z) g
theorem On.nullY (X : On C R own b ml rt nm q Z a0 EL n0 vm T h k n) {o : Int} (hi : Ins b pc (.ifnull o) 3 pc') (hj : Jmp pc o pt) (g : Go C R q Z EL n0 Q T pt Ls st) : Go C R q Z EL n0 Q T pc Ls (.null :: st) :=
  Go.of (fun t z => XS.ifnullYes X.here X.exec rfl rfl (X.dec hi) rfl hj.1 hj.2 z) g
theorem On.nullN (X : On C R own b ml rt nm q Z a0 EL n0 vm T h k n) {o : Int} {a : Addr} (hi : Ins b pc (.ifnull o) 3 pc') (g : Go C R q Z EL n0 Q T pc' Ls st) : Go C R q Z EL n0 Q T pc Ls (.ref a :: st) := by
  obtain ⟨-, rfl⟩ := id hi; exact Go.of (fun t z => XS.ifnullNo X.here X.exec rfl (X.dec hi) rfl z) g
theorem On.nonnullY (X : On C R own b ml rt nm q Z a0 EL n0 vm T h k n) {o : Int} {a : Addr} (hi : Ins b pc (.ifnonnull o) 3 pc') (hj : Jmp pc o pt) (g : Go C R q Z EL n0 Q T pt Ls st) : Go C R q Z EL n0 Q T pc Ls (.ref a :: st) :=
  Go.of (fun t z => XS.ifnonnullYes X.here X.exec rfl rfl (X.dec hi) rfl hj.1 hj.2 z) g
theorem On.nonnullN (X : On C R own b ml rt nm q Z a0 EL n0 vm T h k n) {o : Int} (hi : Ins b pc (.ifnonnull o) 3 pc') (g : Go C R q Z EL n0 Q T pc' Ls st) : Go C R q Z EL n0 Q T pc Ls (.null :: st) := by
  obtain ⟨-, rfl⟩ := id hi; exact Go.of (fun t z => XS.ifnonnullNo X.here X.exec rfl (X.dec hi) rfl z) g
theorem On.acY (X : On C R own b ml rt nm q Z a0 EL n0 vm T h k n) {cd : ACond} {o : Int} {x y : Value} (hi : Ins b pc (.if_acmp cd o) 3 pc') (hj : Jmp pc o pt) (hx' : x.isRef = true) (hy' : y.isRef = true) (hc : XT.acmp cd x y = true) (g : Go C R q Z EL n0 Q T pt Ls st) : Go C R q Z EL n0 Q T pc Ls (y :: x :: st) :=
  Go.of (fun t z => XT.acmpYes X.here X.exec rfl rfl (X.dec hi) rfl hx' hy' hc hj.1 hj.2 z) g
theorem On.acN (X : On C R own b ml rt nm q Z a0 EL n0 vm T h k n) {cd : ACond} {o : Int} {x y : Value} (hi : Ins b pc (.if_acmp cd o) 3 pc') (hx' : x.isRef = true) (hy' : y.isRef = true) (hc : XT.acmp cd x y = false) (g : Go C R q Z EL n0 Q T pc' Ls st) : Go C R q Z EL n0 Q T pc Ls (y :: x :: st) := by
  obtain ⟨-, rfl⟩ := id hi; exact Go.of (fun t z => XT.acmpNo X.here X.exec rfl (X.dec hi) rfl hx' hy' hc z) g
end Laws
end Jvm.Own
namespace Jvm.Own
open Jvm Jvm.ClassFile Sem Op Lib Jvm.Free Jvm.Stand Jvm.LawKit Jvm.RoadKit Bundle
/-! ### steps that read or write the heap or the tables -/
section Heap
variable {C : Cx} {R : Room} {own : String} {b : ByteArray} {ml : Nat} {rt : Option FieldType} {nm : String} {q : Bool} {Z : State} {a0 : Array Value} {EL : List (String × Nat)} {n0 : Nat} {vm : Vm} {T : State} {h : Heap} {k n : Nat} {Q : Option Value → Heap → Prop} {pc pc' pt : Nat} {Ls Ls' : Array Slot} {st : List Value}
theorem On.getfield (X : On C R own b ml rt nm q Z a0 EL n0 vm T h k n) {R0 O f d : String} {ix : Nat} {a : Addr} {v : Value} (hi : Ins b pc (.getfield ix) 3 pc') (w : (Cond.fieldLink own ix R0 f d).before a0 Z = true) (via : Via Z R0 O f d) (F : Fld Z h a O f d v)
    (g : ∀ T', On C R own b ml rt nm q Z a0 EL n0 vm T' h k n → Go C R q Z EL n0 Q T' pc' Ls (v :: st)) : Go C R q Z EL n0 Q T pc Ls (.ref a :: st) := by
  obtain ⟨-, rfl⟩ := id hi
  obtain ⟨⟨k0, locs, S, N, hS, hk⟩, -⟩ := id X
  obtain ⟨T', S', e', st'⟩ := getF S X.exec X.zw X.owned (host := "") (Or.inl w) via X.eT F (g := mkF C.m pc Ls (.ref a :: st)) rfl rfl (X.dec hi)
  exact Go.of st' (g T' (X.put S' N hS hk e' (CHr.refl X.chv) X.old))
theorem On.getstatic (X : On C R own b ml rt nm q Z a0 EL n0 vm T h k n) {R0 O f d : String} {ix : Nat} {v : Value} (hi : Ins b pc (.getstatic ix) 3 pc') (w : (Cond.fieldLink own ix R0 f d).before a0 Z = true) (via : Via Z R0 O f d) (F : Sta Z h O f d v)
    (g : ∀ T', On C R own b ml rt nm q Z a0 EL n0 vm T' h k n → Go C R q Z EL n0 Q T' pc' Ls (v :: st)) : Go C R q Z EL n0 Q T pc Ls st := by
  obtain ⟨-, rfl⟩ := id hi
  obtain ⟨⟨k0, locs, S, N, hS, hk⟩, -⟩ := id X
  obtain ⟨T', S', e', st'⟩ := getS (host := "") S X.exec X.zw X.owned w via X.eT F (g := mkF C.m pc Ls st) rfl (X.dec hi)
  exact Go.of st' (g T' (X.put S' N hS hk e' (CHr.refl X.chv) X.old))
/-- Ext behind a write to a place that is new since -/
theorem ext_wr {h1 h2 h3 : Heap} {a : Addr} {sl : Nat} {v : Value} (E : Ext h1 h2) (W : Wr h2 h3 a sl v) (ha : h1.size ≤ a) : Ext h1 h3 :=
  ⟨Nat.le_trans E.1 (Nat.le_of_eq W.size.symm), fun x c hx => by
    obtain ⟨c', e1, -, -, -, e5, -⟩ := wr_at W (E.2 x c hx)
    rw [e1, e5 fun q => absurd (Array.getElem?_eq_some_iff.mp hx).1 (Nat.not_lt.mpr (q ▸ ha))]⟩
theorem ext_keep {h1 h2 h3 : Heap} {ws : List Addr} (E : Ext h1 h2) (K : Keep h2 h3 ws) (ha : ∀ x ∈ ws, h1.size ≤ x) : Ext h1 h3 :=
  ⟨Nat.le_trans E.1 K.1, fun x c hx => K.2.1 x c (E.2 x c hx) fun hm => absurd (Array.getElem?_eq_some_iff.mp hx).1 (Nat.not_lt.mpr (ha x hm))⟩
theorem ext_refl (h1 : Heap) : Ext h1 h1 := ⟨Nat.le_refl _, fun _ _ q => q⟩
theorem ext_trans {h1 h2 h3 : Heap} (E : Ext h1 h2) (E' : Ext h2 h3) : Ext h1 h3 := ⟨Nat.le_trans E.1 E'.1, fun x c q => E'.2 x c (E.2 x c q)⟩
theorem keep_ext {h1 h2 : Heap} (E : Ext h1 h2) : Keep h1 h2 [] := (Keep.refl h1 []).ext E
theorem ext_of_keep {h1 h2 : Heap} (K : Keep h1 h2 []) : Ext h1 h2 := ⟨K.1, fun x c q => K.2.1 x c q (fun z => nomatch z)⟩
/-- the general put: the field's laid word either way -/
theorem On.putfield (X : On C R own b ml rt nm q Z a0 EL n0 vm T h k n) {R0 O f d Cl : String} {ix kk : Nat} {a : Addr} {v old : Value} {ty : FieldType} (hi : Ins b pc (.putfield ix) 3 pc') (w : (Cond.fieldLink own ix R0 f d).before a0 Z = true) (via : Via Z R0 O f d) (F : Fld Z h a O f d old) (E : Exa Z h a Cl)
    (L : (Cond.lays Cl O f d).before a0 Z = true ∨ ((Cond.laysFinal Cl O f d).before a0 Z = true ∧ own = O ∧ nm = "<init>")) (wi : (Cond.instantiable Cl kk).before a0 Z = true) (hty : parseFieldDescriptor d = some ty) (hn : narrow ty v = v) (hf : fits ty v = true) (ga : n0 ≤ a) (Sf : Safe Z EL vm h a)
    (g : ∀ T' h', On C R own b ml rt nm q Z a0 EL n0 vm T' h' k n → Wr h h' a (RoadKit.slotOf Z O f d) v → Go C R q Z EL n0 Q T' pc' Ls st) : Go C R q Z EL n0 Q T pc Ls (v :: .ref a :: st) := by
  obtain ⟨-, rfl⟩ := id hi
  obtain ⟨⟨k0, locs, S, N, hS, hk⟩, -, -, -, -, -, hnm, -⟩ := id X
  obtain ⟨T', h', S', e', W', st'⟩ := putF S X.exec X.zw X.owned (host := "") (Or.inl w) via X.eT F E (L.imp id fun z => ⟨z.1, z.2.1, hnm.trans z.2.2⟩) wi hty hn hf (g := mkF C.m pc Ls (v :: .ref a :: st)) rfl rfl (X.dec hi)
  exact Go.of st' (g T' h' (X.put S' (Fr.snoc S' N ga) hS hk e' (CHr.wr W' Sf X.chv) (X.old.wr W' ga)) W')
theorem On.new (X : On C R own b ml rt nm q Z a0 EL n0 vm T h k n) {Cl : String} {ix nf k' n' : Nat} (hi : Ins b pc (.new ix) 3 pc') (w : (Cond.classLink own ix Cl).before a0 Z = true) (wi : (Cond.instantiable Cl nf).before a0 Z = true) (wz : (Cond.initialized Cl).before a0 Z = true)
    (hk' : k + 1 = k') (hn' : n + nf = n') (hc : k' ≤ R.cells) (hl : n' ≤ R.slots)
    (g : ∀ T' h' a, On C R own b ml rt nm q Z a0 EL n0 vm T' h' k' n' → Ext h h' → h.size = a → n0 ≤ a → Exa Z h' a Cl → (∀ {O nm d : String} {ty : FieldType}, Laid Z a0 Cl O nm d → parseFieldDescriptor d = some ty → Fld Z h' a O nm d (defaultValue ty)) → Unt h' a → Safe Z EL vm h' a →
      Go C R q Z EL n0 Q T' pc' Ls (.ref a :: st)) : Go C R q Z EL n0 Q T pc Ls st := by
  subst hk' hn'
  obtain ⟨-, rfl⟩ := id hi
  obtain ⟨⟨k0, locs, S, N, hS, hk⟩, -⟩ := id X
  obtain ⟨T', h', S', e', E', A', D', U', st'⟩ := newO S X.exec X.zw X.owned w wi wz X.eT (g := mkF C.m pc Ls st) rfl (X.dec hi) hc hl
  exact Go.of st' (g T' h' h.size (X.put S' N hS hk e' (CHr.ext E' X.chv) (X.old.ext E')) E' rfl X.n0le A' D' U' ((Safe.new (Nat.le_refl _)).ext E' X.chv))
theorem On.newarray (X : On C R own b ml rt nm q Z a0 EL n0 vm T h k n) {aty : ArrayType} {ty : FieldType} {z : Int32} {cap k' n' : Nat} (hi : Ins b pc (.newarray aty) 2 pc') (hty : newarray.typeOf aty = ty) (w : (Cond.arrayClass ty).before a0 Z = true)
    (hz : ¬ z < 0) (hcap : z.toNatClampNeg ≤ cap) (hbig : cap * 8 ≤ 536870912) (hk' : k + 1 = k') (hn' : n + cap = n') (hc : k' ≤ R.cells) (hl : n' ≤ R.slots)
    (g : ∀ T' h' a kA, On C R own b ml rt nm q Z a0 EL n0 vm T' h' k' n' → Ext h h' → h.size = a → n0 ≤ a → Arv Z h' a kA ty z [] (defaultValue ty) → Safe Z EL vm h' a → Go C R q Z EL n0 Q T' pc' Ls (.ref a :: st)) : Go C R q Z EL n0 Q T pc Ls (.int z :: st) := by
  subst hk' hn' hty
  obtain ⟨-, rfl⟩ := id hi
  obtain ⟨⟨k0, locs, S, N, hS, hk⟩, -⟩ := id X
  obtain ⟨T', h', kA, S', e', E', A', st'⟩ := newP S X.exec X.zw w X.eT (g := mkF C.m pc Ls (.int z :: st)) rfl (X.dec hi) rfl hz hcap hbig hc hl
  exact Go.of st' (g T' h' h.size kA (X.put S' N hS hk e' (CHr.ext E' X.chv) (X.old.ext E')) E' rfl X.n0le (Arv.new A' hz) ((Safe.new (Nat.le_refl _)).ext E' X.chv))
theorem On.anewarray (X : On C R own b ml rt nm q Z a0 EL n0 vm T h k n) {Cl ad : String} {ix : Nat} {z : Int32} {cap k' n' : Nat} (hi : Ins b pc (.anewarray ix) 3 pc') (w1 : (Cond.classLink own ix Cl).before a0 Z = true) (w2 : (Cond.arrayOver (.object Cl)).before a0 Z = true)
    (hz : ¬ z < 0) (hcap : z.toNatClampNeg ≤ cap) (hbig : cap * 8 ≤ 536870912) (hk' : k + 1 = k') (hn' : n + cap = n') (hc : k' ≤ R.cells) (hl : n' ≤ R.slots) (had : "[" ++ (FieldType.object Cl).toString = ad)
    (g : ∀ T' h' a kA, On C R own b ml rt nm q Z a0 EL n0 vm T' h' k' n' → Ext h h' → h.size = a → n0 ≤ a → Arv Z h' a kA (.object Cl) z [] .null → Exa Z h' a ad → Ovr Z kA Cl → Go C R q Z EL n0 Q T' pc' Ls (.ref a :: st)) : Go C R q Z EL n0 Q T pc Ls (.int z :: st) := by
  subst hk' hn'
  obtain ⟨-, rfl⟩ := id hi
  obtain ⟨⟨k0, locs, S, N, hS, hk⟩, -⟩ := id X
  obtain ⟨T', h', kA, S', e', E', A', F', O', st'⟩ := newRE S X.exec X.zw X.owned w1 w2 X.eT (g := mkF C.m pc Ls (.int z :: st)) rfl (X.dec hi) rfl hz hcap hbig hc hl had
  exact Go.of st' (g T' h' h.size kA (X.put S' N hS hk e' (CHr.ext E' X.chv) (X.old.ext E')) E' rfl X.n0le (Arv.new A' hz) F' O')
theorem On.castore (X : On C R own b ml rt nm q Z a0 EL n0 vm T h k n) {a : Addr} {kA : ClassId} {z j x y : Int32} {vs : List Value} {dv : Value} {i : Nat} (hi : Ins b pc .castore 1 pc') (V : Arv Z h a kA .char z vs dv) (hin : ¬ j < 0 ∧ j < z) (hj : j.toNatClampNeg = i) (hl : i < vs.length) (hy : nar .char x = y) (ga : n0 ≤ a)
    (g : ∀ T' h', On C R own b ml rt nm q Z a0 EL n0 vm T' h' k n → Wr h h' a i (.int y) → Arv Z h' a kA .char z (vs.set i (.int y)) dv → Go C R q Z EL n0 Q T' pc' Ls st) : Go C R q Z EL n0 Q T pc Ls (.int x :: .int j :: .ref a :: st) := by
  subst hy hj
  obtain ⟨-, rfl⟩ := id hi
  obtain ⟨⟨k0, locs, S, N, hS, hk⟩, -⟩ := id X
  have Sf : Safe Z EL vm h a := Safe.arv X.zw.alike V (by simp)
  obtain ⟨cl, A, V2, V3, V4, V5, V6⟩ := V
  obtain ⟨T', h', S', e', W', st'⟩ := stC S X.exec X.zw X.eT A (j := j) (inb_of V3 hin) (g := mkF C.m pc Ls (.int x :: .int j :: .ref a :: st)) rfl rfl (X.dec hi)
  exact Go.of st' (g T' h' (X.put S' (Fr.snoc S' N ga) hS hk e' (CHr.wr W' Sf X.chv) (X.old.wr W' ga)) W' (Arv.set A V2 V3 V4 V5 V6 (fits_nar_char _) W' _ rfl hl))
theorem On.bastore (X : On C R own b ml rt nm q Z a0 EL n0 vm T h k n) {a : Addr} {kA : ClassId} {z j x y : Int32} {vs : List Value} {dv : Value} {i : Nat} (hi : Ins b pc .bastore 1 pc') (V : Arv Z h a kA .byte z vs dv) (hin : ¬ j < 0 ∧ j < z) (hj : j.toNatClampNeg = i) (hl : i < vs.length) (hy : nar .byte x = y) (ga : n0 ≤ a) (Sf : Safe Z EL vm h a)
    (g : ∀ T' h', On C R own b ml rt nm q Z a0 EL n0 vm T' h' k n → Wr h h' a i (.int y) → Arv Z h' a kA .byte z (vs.set i (.int y)) dv → Go C R q Z EL n0 Q T' pc' Ls st) : Go C R q Z EL n0 Q T pc Ls (.int x :: .int j :: .ref a :: st) := by
  subst hy hj
  obtain ⟨-, rfl⟩ := id hi
  obtain ⟨⟨k0, locs, S, N, hS, hk⟩, -⟩ := id X
  obtain ⟨cl, A, V2, V3, V4, V5, V6⟩ := V
  obtain ⟨T', h', S', e', W', st'⟩ := stB S X.exec X.zw X.eT A (j := j) (inb_of V3 hin) (g := mkF C.m pc Ls (.int x :: .int j :: .ref a :: st)) rfl rfl (X.dec hi)
  exact Go.of st' (g T' h' (X.put S' (Fr.snoc S' N ga) hS hk e' (CHr.wr W' Sf X.chv) (X.old.wr W' ga)) W' (Arv.set A V2 V3 V4 V5 V6 (fits_nar_byte _) W' _ rfl hl))
theorem On.aastore (X : On C R own b ml rt nm q Z a0 EL n0 vm T h k n) {a : Addr} {kA : ClassId} {ty : FieldType} {z j : Int32} {v : Value} {vs : List Value} {dv : Value} {i : Nat} (hi : Ins b pc .aastore 1 pc') (V : Arv Z h a kA ty z vs dv) (hty : ty.isReference = true) (hin : ¬ j < 0 ∧ j < z) (hj : j.toNatClampNeg = i) (hl : i < vs.length) (hf : fits ty v = true) (F : Sto Z h a v) (ga : n0 ≤ a)
    (g : ∀ T' h', On C R own b ml rt nm q Z a0 EL n0 vm T' h' k n → Wr h h' a i v → Arv Z h' a kA ty z (vs.set i v) dv → Go C R q Z EL n0 Q T' pc' Ls st) : Go C R q Z EL n0 Q T pc Ls (v :: .int j :: .ref a :: st) := by
  subst hj
  obtain ⟨-, rfl⟩ := id hi
  obtain ⟨⟨k0, locs, S, N, hS, hk⟩, -⟩ := id X
  have Sf : Safe Z EL vm h a := Safe.arv X.zw.alike V (fun z => by subst z; simp [FieldType.isReference] at hty)
  obtain ⟨cl, A, V2, V3, V4, V5, V6⟩ := V
  obtain ⟨T', h', S', e', W', st'⟩ := stR S X.exec X.zw X.eT A (j := j) (inb_of V3 hin) hty F (g := mkF C.m pc Ls (v :: .int j :: .ref a :: st)) rfl rfl (X.dec hi)
  exact Go.of st' (g T' h' (X.put S' (Fr.snoc S' N ga) hS hk e' (CHr.wr W' Sf X.chv) (X.old.wr W' ga)) W' (Arv.set A V2 V3 V4 V5 V6 hf W' _ rfl hl))
theorem On.arraylength (X : On C R own b ml rt nm q Z a0 EL n0 vm T h k n) {a : Addr} {kA : ClassId} {ty : FieldType} {z : Int32} {vs : List Value} {dv : Value} (hi : Ins b pc .arraylength 1 pc') (V : Arv Z h a kA ty z vs dv)
    (g : Go C R q Z EL n0 Q T pc' Ls (.int z :: st)) : Go C R q Z EL n0 Q T pc Ls (.ref a :: st) := by
  obtain ⟨-, rfl⟩ := id hi
  obtain ⟨⟨k0, locs, S, N, hS, hk⟩, -⟩ := id X
  obtain ⟨cl, A, V2, V3, V4, V5, V6⟩ := V
  refine Go.of (fun t u => S.arraylength X.exec (by rw [X.eT]; exact A.1) (State.isArrayOf_alike X.zw.alike A.2.1) (g := mkF C.m pc Ls (.ref a :: st)) rfl rfl (X.dec hi) t ?_) g
  rw [len_of V3 V4]; exact u
theorem On.caload (X : On C R own b ml rt nm q Z a0 EL n0 vm T h k n) {a : Addr} {kA : ClassId} {z j : Int32} {vs : List Value} {dv v : Value} (hi : Ins b pc .caload 1 pc') (V : Arv Z h a kA .char z vs dv) (hin : ¬ j < 0 ∧ j < z) (hv : vs.getD j.toNatClampNeg dv = v)
    (g : Go C R q Z EL n0 Q T pc' Ls (v :: st)) : Go C R q Z EL n0 Q T pc Ls (.int j :: .ref a :: st) := by
  obtain ⟨-, rfl⟩ := id hi
  obtain ⟨⟨k0, locs, S, N, hS, hk⟩, -⟩ := id X
  obtain ⟨cl, A, V2, V3, V4, V5, V6⟩ := V
  exact Go.of (fun t u => S.caload X.exec (by rw [X.eT]; exact A.1) (State.isArrayOf_alike X.zw.alike A.2.1) A.2.2 (inb_of V3 hin) (V5.at (inb_of V3 hin) hv) (g := mkF C.m pc Ls (.int j :: .ref a :: st)) rfl rfl (X.dec hi) t u) g
theorem On.baload (X : On C R own b ml rt nm q Z a0 EL n0 vm T h k n) {a : Addr} {kA : ClassId} {z j : Int32} {vs : List Value} {dv v : Value} (hi : Ins b pc .baload 1 pc') (V : Arv Z h a kA .byte z vs dv) (hin : ¬ j < 0 ∧ j < z) (hv : vs.getD j.toNatClampNeg dv = v)
    (g : Go C R q Z EL n0 Q T pc' Ls (v :: st)) : Go C R q Z EL n0 Q T pc Ls (.int j :: .ref a :: st) := by
  obtain ⟨-, rfl⟩ := id hi
  obtain ⟨⟨k0, locs, S, N, hS, hk⟩, -⟩ := id X
  obtain ⟨cl, A, V2, V3, V4, V5, V6⟩ := V
  exact Go.of (fun t u => S.baloadBytes X.exec (by rw [X.eT]; exact A.1) (State.isArrayOf_alike X.zw.alike A.2.1) A.2.2 (inb_of V3 hin) (V5.at (inb_of V3 hin) hv) (g := mkF C.m pc Ls (.int j :: .ref a :: st)) rfl rfl (X.dec hi) t u) g
theorem On.aaload (X : On C R own b ml rt nm q Z a0 EL n0 vm T h k n) {a : Addr} {kA : ClassId} {ty : FieldType} {z j : Int32} {vs : List Value} {dv v : Value} (hi : Ins b pc .aaload 1 pc') (V : Arv Z h a kA ty z vs dv) (hty : ty.isReference = true) (hin : ¬ j < 0 ∧ j < z) (hv : vs.getD j.toNatClampNeg dv = v)
    (g : Go C R q Z EL n0 Q T pc' Ls (v :: st)) : Go C R q Z EL n0 Q T pc Ls (.int j :: .ref a :: st) := by
  obtain ⟨-, rfl⟩ := id hi
  obtain ⟨⟨k0, locs, S, N, hS, hk⟩, -⟩ := id X
  obtain ⟨cl, A, V2, V3, V4, V5, V6⟩ := V
  exact Go.of (fun t u => S.aaload X.exec (by rw [X.eT]; exact A.1) (State.isArrayOf_alike X.zw.alike A.2.1) hty A.2.2 (inb_of V3 hin) (V5.at (inb_of V3 hin) hv) (g := mkF C.m pc Ls (.int j :: .ref a :: st)) rfl rfl (X.dec hi) t u) g
theorem On.ldcI (X : On C R own b ml rt nm q Z a0 EL n0 vm T h k n) {ix : Nat} {v : Int32} (hi : Ins b pc (.ldc ix) 2 pc') (w : (Cond.constant own ix v).before a0 Z = true) (g : Go C R q Z EL n0 Q T pc' Ls (.int v :: st)) : Go C R q Z EL n0 Q T pc Ls st := by
  obtain ⟨-, rfl⟩ := id hi
  obtain ⟨⟨k0, locs, S, N, hS, hk⟩, -⟩ := id X
  exact Go.of (fun t u => S.ldcI X.exec X.owned (mv (s := C.s.setVm vm) X.zw w) (g := mkF C.m pc Ls st) rfl (X.dec hi) u) g
theorem On.ldc2J (X : On C R own b ml rt nm q Z a0 EL n0 vm T h k n) {ix : Nat} {v : Int64} (hi : Ins b pc (.ldc2_w ix) 3 pc') (w : (Cond.constantLong own ix v).before a0 Z = true) (g : Go C R q Z EL n0 Q T pc' Ls (.long v :: st)) : Go C R q Z EL n0 Q T pc Ls st := by
  obtain ⟨-, rfl⟩ := id hi
  obtain ⟨⟨k0, locs, S, N, hS, hk⟩, -⟩ := id X
  exact Go.of (fun t u => S.ldc2J X.exec X.owned (mv (s := C.s.setVm vm) X.zw w) (g := mkF C.m pc Ls st) rfl (X.dec hi) u) g
theorem On.checkcast (X : On C R own b ml rt nm q Z a0 EL n0 vm T h k n) {K : String} {ix : Nat} {a : Addr} (hi : Ins b pc (.checkcast ix) 3 pc') (w : (Cond.classLink own ix K).before a0 Z = true) (F : RoadKit.Ins Z h a K true)
    (g : ∀ T', On C R own b ml rt nm q Z a0 EL n0 vm T' h k n → Go C R q Z EL n0 Q T' pc' Ls (.ref a :: st)) : Go C R q Z EL n0 Q T pc Ls (.ref a :: st) := by
  obtain ⟨-, rfl⟩ := id hi
  obtain ⟨⟨k0, locs, S, N, hS, hk⟩, -⟩ := id X
  obtain ⟨T', S', e', st'⟩ := castY S X.exec X.zw X.owned w X.eT F (g := mkF C.m pc Ls (.ref a :: st)) rfl rfl (X.dec hi)
  exact Go.of st' (g T' (X.put S' N hS hk e' (CHr.refl X.chv) X.old))
theorem On.instY (X : On C R own b ml rt nm q Z a0 EL n0 vm T h k n) {K : String} {ix : Nat} {a : Addr} (hi : Ins b pc (.instanceof ix) 3 pc') (w : (Cond.classLink own ix K).before a0 Z = true) (F : RoadKit.Ins Z h a K true)
    (g : ∀ T', On C R own b ml rt nm q Z a0 EL n0 vm T' h k n → Go C R q Z EL n0 Q T' pc' Ls (.int 1 :: st)) : Go C R q Z EL n0 Q T pc Ls (.ref a :: st) := by
  obtain ⟨-, rfl⟩ := id hi
  obtain ⟨⟨k0, locs, S, N, hS, hk⟩, -⟩ := id X
  obtain ⟨T', S', e', st'⟩ := RoadKit.instY S X.exec X.zw X.owned w X.eT F (g := mkF C.m pc Ls (.ref a :: st)) rfl rfl (X.dec hi)
  exact Go.of st' (g T' (X.put S' N hS hk e' (CHr.refl X.chv) X.old))
theorem On.instNo (X : On C R own b ml rt nm q Z a0 EL n0 vm T h k n) {K Cl : String} {ix : Nat} {a : Addr} (hi : Ins b pc (.instanceof ix) 3 pc') (w : (Cond.classLink own ix K).before a0 Z = true) (E : Exa Z h a Cl) (F : ∃ c t, Z.vm.findClass Cl = some c ∧ Z.vm.findClass K = some t ∧ Z.vm.assignable c t = false)
    (g : ∀ T', On C R own b ml rt nm q Z a0 EL n0 vm T' h k n → Go C R q Z EL n0 Q T' pc' Ls (.int 0 :: st)) : Go C R q Z EL n0 Q T pc Ls (.ref a :: st) := by
  obtain ⟨-, rfl⟩ := id hi
  obtain ⟨⟨k0, locs, S, N, hS, hk⟩, -⟩ := id X
  obtain ⟨T', S', e', st'⟩ := RoadKit.instNo S X.exec X.zw X.owned w X.eT E F (g := mkF C.m pc Ls (.ref a :: st)) rfl rfl (X.dec hi)
  exact Go.of st' (g T' (X.put S' N hS hk e' (CHr.refl X.chv) X.old))
/-- Object.<init> -/
theorem On.initO (X : On C R own b ml rt nm q Z a0 EL n0 vm T h k n) {ix W : Nat} {a : Addr} (hi : Ins b pc (.invokespecial ix) 3 pc') (w1 : (Cond.methodLink own ix Lib.objectInit).before a0 Z = true) (w2 : (Cond.instanceMethod Lib.objectInit).before a0 Z = true) (w3 : (Cond.code Lib.objectInit ⟨#[0xb1]⟩ 1 none).before a0 Z = true)
    (hsz : Ls.size = ml) (hf : 1 ≤ R.frames) (hW : 0 + (st.map fun v => v.category).sum = W) (hl : W + 12 ≤ R.locals)
    (g : ∀ T', On C R own b ml rt nm q Z a0 EL n0 vm T' h k n → Go C R q Z EL n0 Q T' pc' Ls st) : Go C R q Z EL n0 Q T pc Ls (.ref a :: st) := by
  obtain ⟨-, rfl⟩ := id hi
  obtain ⟨⟨k0, locs, S, N, hS, hk⟩, -, -, -, hml, -⟩ := id X
  obtain ⟨T', S', e', st'⟩ := RoadKit.initO S X.exec X.zw X.owned w1 w2 w3 X.eT (g := mkF C.m pc Ls (.ref a :: st)) rfl (hsz.trans hml.symm) rfl (X.dec hi) hf (W := W) (Nat.le_of_eq hW) hl
  exact Go.of st' (g T' (X.put S' N hS hk e' (CHr.refl X.chv) X.old))
/-! ### the end -/
theorem On.leave (X : On C R own b ml rt nm q Z a0 EL n0 vm T h k n) {v : Option Value} (hv : rt = none → v = none) (hk : k ≤ R.cells) (hn : n ≤ R.slots) (hQ : Q v h) {Ls : Array Slot} {st : List Value}
    (f : ∀ locs fs, Stand C.p C.l C.e R (C.s.setVm vm) C.m C.args C.below C.meth C.c T locs k n → (∀ (f : JFrame) (acts : List Action), f.method = C.m → f.locked = none → f.entered = [] → (doReturn C.e (T.setTop f) acts v).1 = T.setFrames fs) → Steps C.p.tables C.e C.below (T.setTop (mkF C.m pc Ls st)) (T.setFrames fs)) :
    Go C R q Z EL n0 Q T pc Ls st := by
  obtain ⟨⟨k0, locs, S, N, hS, hk0⟩, eT, e2, e3, e4, e5, e6, e7, e8, e9, e10, e11, e12, e13⟩ := X
  subst eT
  obtain ⟨fs, h1, h2, h3, h4⟩ := S.leaveW hS hk0 (v := v) (fun z => hv (e5.symm.trans z)) e7
  obtain ⟨r1, r2, r3, r4⟩ := h4
  have r5 : C.s.sameButNew { T.setFrames fs with vm := C.s.vm } locs R.cells R.slots := r4.mono hk hn
  refine ⟨T.setFrames fs, .returned v, f locs fs S h1, h2, h3, v, locs, rfl, ⟨hQ, N, e13⟩, e11.trans (show CHr Z EL vm T.heap T.vm T.heap from CHv.at S e8 e10 e11.1), ⟨r1, r2, r3, r5⟩, fun hq => ⟨r1, ?_, r5⟩⟩
  exact State.WarmedH.trans (t := C.s.setVm vm) (e12 hq) S.warmed
theorem On.ret (X : On C R own b ml rt nm q Z a0 EL n0 vm T h k n) (hi : Ins b pc .return_ 1 pc') (hr : rt = none) (hk : k ≤ R.cells) (hn : n ≤ R.slots) (hQ : Q none h) : Go C R q Z EL n0 Q T pc Ls [] :=
  X.leave (v := none) (fun _ => rfl) hk hn hQ fun locs fs S hl => S.returnOut X.exec (X.2.2.2.2.2.1.trans hr) (X.dec hi) hl
theorem On.ireturn (X : On C R own b ml rt nm q Z a0 EL n0 vm T h k n) {t : FieldType} {z : Int32} (hi : Ins b pc .ireturn 1 pc') (hr : rt = some t) (ht : t = .int ∨ t = .boolean ∨ t = .byte ∨ t = .char ∨ t = .short) (hz : narrow t (.int z) = .int z) (hk : k ≤ R.cells) (hn : n ≤ R.slots) (hQ : Q (some (.int z)) h) : Go C R q Z EL n0 Q T pc Ls (.int z :: st) :=
  X.leave (v := some (.int z)) (fun y => by rw [hr] at y; cases y) hk hn hQ fun locs fs S hl => retOut S X.exec (X.2.2.2.2.2.1.trans hr) hz (Or.inl ⟨rfl, ht, z, rfl⟩) (X.dec hi) hl
theorem On.lreturn (X : On C R own b ml rt nm q Z a0 EL n0 vm T h k n) {z : Int64} (hi : Ins b pc .lreturn 1 pc') (hr : rt = some .long) (hk : k ≤ R.cells) (hn : n ≤ R.slots) (hQ : Q (some (.long z)) h) : Go C R q Z EL n0 Q T pc Ls (.long z :: st) :=
  X.leave (v := some (.long z)) (fun y => by rw [hr] at y; cases y) hk hn hQ fun locs fs S hl => retOut S X.exec (X.2.2.2.2.2.1.trans hr) rfl (Or.inr (Or.inl ⟨rfl, rfl, z, rfl⟩)) (X.dec hi) hl
theorem On.areturn (X : On C R own b ml rt nm q Z a0 EL n0 vm T h k n) {t : FieldType} {v : Value} (hi : Ins b pc .areturn 1 pc') (hr : rt = some t) (ht : t.isReference = true) (hv : v.isRef = true) (hk : k ≤ R.cells) (hn : n ≤ R.slots) (hQ : Q (some v) h) : Go C R q Z EL n0 Q T pc Ls (v :: st) :=
  X.leave (v := some v) (fun y => by rw [hr] at y; cases y) hk hn hQ fun locs fs S hl => retOut S X.exec (X.2.2.2.2.2.1.trans hr) (by cases t <;> cases v <;> first | rfl | simp [FieldType.isReference] at ht | simp [Value.isRef] at hv) (Or.inr (Or.inr (Or.inr (Or.inr ⟨rfl, ht, hv⟩)))) (X.dec hi) hl
end Heap
end Jvm.Own
namespace Jvm.Own
open Jvm Jvm.ClassFile Sem Op Lib Jvm.Free Jvm.Stand Jvm.LawKit Jvm.RoadKit Bundle
/-! ### contracts and calls -/
/-- the contract of a body, at a heap and for arguments: ws are the String and byte[] cells that it may write -/
def Con (wl : List Jvm.Cond) (q : Bool) (l : Launch) (Z : State) (EL : List (String × Nat)) (n0 : Nat) (ws : List Addr) (y : MethodName) (bytes : ByteArray) (maxL : Nat) (ret : Option FieldType) (rm : Room) (as' : Array Value) (h : Heap) (Q : Option Value → Heap → Prop) : Prop :=
  MetFree l y (head1 (Cond.code y bytes maxL ret :: wl) rm) (fun a U => a = as' ∧ Z.Warmed39 U.vm ∧ U.heap = h ∧ CHv Z EL U.vm h ∧ ∀ x ∈ ws, Safe Z EL U.vm h x) (fun _ _ _ _ _ => True)
    (fun _ U o U' => ∃ v L, o = .returned v ∧ (Q v U'.heap ∧ Fr n0 L ∧ Old Z n0 U'.heap) ∧ CHr Z EL U.vm U.heap U'.vm U'.heap ∧ EndQ q U o U' L rm.cells rm.slots)
theorem Con.intro {wl : List Jvm.Cond} {q : Bool} {l : Launch} {Z : State} {a0 : Array Value} {EL : List (String × Nat)} {n0 : Nat} {ws : List Addr} {y : MethodName} {bytes : ByteArray} {maxL : Nat} {ret : Option FieldType} {rm : Room} {as' : Array Value} {h : Heap} {Q : Option Value → Heap → Prop} {Ls : Array Slot}
    (hp : plainFor y = true) (hEL : EW Z a0 EL) (hO : Old Z n0 h) (ef : ∀ m, entryFrame m as' maxL = mkF m 0 Ls [])
    (body : ∀ (C : Cx) (vm : Vm) (T : State), C.l = l → On C rm y.cls bytes maxL ret y.name q Z a0 EL n0 vm T h 0 0 → (∀ x ∈ ws, Safe Z EL vm h x) → Go C rm q Z EL n0 Q T 0 Ls []) : Con wl q l Z EL n0 ws y bytes maxL ret rm as' h Q := by
  refine MetFree.of_bodySF hp hisR ?_
  intro p e s m args below meth c s₁ Bd hml0 hP hK
  obtain ⟨rfl, hZ, rfl, hC, hw⟩ := hP
  have e0 : s₁.heap = s.heap := by rw [Bd.state]; rfl
  have S0 : Stand p l e rm s m args below meth c s₁ [] 0 0 := Stand.of_body Bd
  have g := body (p, l, e, s, m, args, below, meth, c) s.vm s₁ rfl ⟨⟨0, [], S0, Fr.nil n0, (State.WarmedH.refl s).since 0, Nat.zero_le _⟩, e0, Bd.exec, Bd.bytes, hml0, Bd.returns, (name_of_methodNamed Bd.named Bd.method).1, Bd.notSynchronized, hZ, findClass_of_methodNamed Bd.named, hEL, CHr.refl hC, fun _ => State.WarmedH.refl s, hO⟩ hw
  obtain ⟨s2, o, g1, g2, g3, v, L, g4, g5, g6, g7⟩ := g
  refine ⟨s2, o, castTop (ef m) g1, g2, g3, v, L, g4, g5, g6, g7⟩
theorem backQ {q : Bool} {l : Launch} {Z : State} {a0 : Array Value} {EL : List (String × Nat)} {n0 : Nat} {ws : List Addr} {y : MethodName} {bytes : ByteArray} {maxL : Nat} {ret : Option FieldType} {rm R : Room} {as' : Array Value} {h : Heap} {Q : Option Value → Heap → Prop} {p : Program} {e : Env} {below : List Frame} {s : State} {args : Array Value} {vm : Vm} {len W : Nat}
    (hM : Con [] q l Z EL n0 ws y bytes maxL ret rm as' h Q) (hZ : Z.Warmed39 vm) (wc : (Cond.code y bytes maxL ret).before a0 Z = true) (wz : (Cond.initialized y.cls).before a0 Z = true) (hf : rm.frames + 1 ≤ R.frames) (hl : W + (maxL + 11) + rm.locals ≤ R.locals) (hEL : EW Z a0 EL) (H : CHv Z EL vm h) (hs : ∀ x ∈ ws, Safe Z EL vm h x ∧ x < h.size) :
    BackS l R p e below (s.setVm vm) args y len W (fun A a => a = as' ∧ A.U.heap = h ∧ A.cells + rm.cells ≤ R.cells ∧ A.slots + rm.slots ≤ R.slots)
      (fun A _ v B => ∃ L, (Q v B.U.heap ∧ Fr n0 L ∧ Old Z n0 B.U.heap) ∧ B.locs = A.locs ++ L ∧ B.cells = A.cells + rm.cells ∧ B.slots = A.slots + rm.slots ∧ CHr Z EL vm h B.U.vm B.U.heap ∧ (q = true → (s.setVm vm).WarmedH B.U.vm)) :=
  BackS.of_freeW (bytes := bytes) (maxL := maxL) (ret := ret) (E := fun _ first o t L k n => k = rm.cells ∧ n = rm.slots ∧ (∃ v, o = .returned v ∧ (Q v t.heap ∧ Fr n0 L ∧ Old Z n0 t.heap)) ∧ CHr Z EL first.vm first.heap t.vm t.heap ∧ (q = true → first.WarmedH t.vm)) hM hf hl
    (fun m meth c A a Y hp => have hU : Z.Warmed39 A.U.vm := wtrans (s := s.setVm vm) hZ Y.warmed
      ⟨by show (Cond.and _ .tt).before a A.U = true; rw [Cond.before_and, mv hU wc]; rfl, mv hU wc, mv hU wz, hp.2.2.1, hp.2.2.2⟩)
    (fun m meth c A a g mk Y hp => ⟨hp.1, wtrans (s := s.setVm vm) hZ Y.warmed, hp.2.1, (CHv.at Y hZ hEL H).1, fun x hx => (CHv.at Y hZ hEL H).safe (hs x hx).2 (hs x hx).1⟩) (fun _ _ _ _ _ _ _ _ _ => trivial)
    (fun _ _ _ _ ⟨v, L, h1, h2, h3, h4⟩ => ⟨L, _, _, h4.1, rfl, rfl, ⟨v, h1, h2⟩, h3, fun hq => (h4.2 hq).2.1⟩)
    (fun m meth c A a g mk v t L k n Y hp _ _ ⟨e1, e2, ⟨v', e3, e4⟩, e5, e6⟩ => by
      cases e3; subst e1 e2
      refine ⟨L, e4, rfl, rfl, rfl, (CHv.at Y hZ hEL H).trans ?_, fun hq => State.WarmedH.trans (t := A.U) Y.warmed (e6 hq)⟩
      rw [← hp.2.1]; exact e5)
section Calls
variable {C : Cx} {R : Room} {own : String} {b : ByteArray} {ml : Nat} {rt : Option FieldType} {nm : String} {q : Bool} {Z : State} {a0 : Array Value} {EL : List (String × Nat)} {n0 : Nat} {vm : Vm} {T : State} {h : Heap} {k n : Nat} {Q : Option Value → Heap → Prop} {pc pc' pt : Nat} {Ls Ls' : Array Slot} {st : List Value}
/-- behind a call: where the walk stands -/
theorem On.after (X : On C R own b ml rt nm q Z a0 EL n0 vm T h k n) {B : Pt} {rm : Room} {Q' : Heap → Prop} {k' n' k0 : Nat} {locs : List Loc} (N : Fr n0 locs) (hS : C.s.Since vm k0) (hk : k0 ≤ h.size)
    (S' : Stand C.p C.l C.e R ((C.s.setVm vm).setVm B.U.vm) C.m C.args C.below C.meth C.c B.U B.locs B.cells B.slots) (hs : (C.s.setVm vm).Since B.U.vm B.U.heap.size) (hg : T.heap.size ≤ B.U.heap.size)
    (hp : ∃ L, (Q' B.U.heap ∧ Fr n0 L ∧ Old Z n0 B.U.heap) ∧ B.locs = locs ++ L ∧ B.cells = k + rm.cells ∧ B.slots = n + rm.slots ∧ CHr Z EL vm h B.U.vm B.U.heap ∧ (q = true → (C.s.setVm vm).WarmedH B.U.vm)) (hk' : k + rm.cells = k') (hn' : n + rm.slots = n') :
    On C R own b ml rt nm q Z a0 EL n0 B.U.vm B.U B.U.heap k' n' ∧ CHr Z EL vm h B.U.vm B.U.heap ∧ Q' B.U.heap := by
  obtain ⟨-, e1, e2, e3, e4, e5, e6, e7, e8, e9, e10, e11, e12, e13⟩ := X
  obtain ⟨L, ⟨r1, r2, r8⟩, r3, r4, r5, r6, r7⟩ := hp
  subst hk' hn'
  rw [r3, r4, r5] at S'
  rw [e1] at hg
  exact ⟨⟨⟨_, _, S', N.app r2, hS.trans hs (Nat.le_trans hk hg), Nat.le_refl _⟩, rfl, e2, e3, e4, e5, e6, e7, State.Warmed39.trans (t := C.s.setVm vm) e8 hs.1, by rw [hs.1.alike.findClass]; exact e9, e10, e11.trans r6, fun hq => State.WarmedH.trans (t := C.s.setVm vm) (e12 hq) (r7 hq), r8⟩, r6, r1⟩
theorem On.callS (X : On C R own b ml rt nm q Z a0 EL n0 vm T h k n) {l : Launch} (hl0 : C.l = l) {ix W k' n' : Nat} {y : MethodName} {bytes : ByteArray} {maxL : Nat} {ret r : Option FieldType} {ps : List FieldType} {rm : Room} {Q' : Option Value → Heap → Prop} {ws : List Addr} {argsL sta : List Value} (hi : Ins b pc (.invokestatic ix) 3 pc')
    (hM : Con [] q l Z EL n0 ws y bytes maxL ret rm argsL.toArray h Q') (w1 : (Cond.methodLink own ix y).before a0 Z = true) (w2 : (Cond.static y).before a0 Z = true) (w3 : (Cond.initialized y.cls).before a0 Z = true) (w4 : (Cond.code y bytes maxL ret).before a0 Z = true) (hy : y.cls ≠ "java/lang/invoke/MethodHandle" ∧ y.cls ≠ "java/lang/invoke/VarHandle")
    (hs : ∀ x ∈ ws, Safe Z EL vm h x ∧ x < h.size) (hd : parseMethodDescriptor y.desc = some ⟨ps, r⟩) (hn : argsL.length = ps.length) (hst : sta = argsL.reverse ++ st) (hsz : Ls.size = ml) (hW : 0 + (st.map fun v => v.category).sum = W) (hf : rm.frames + 1 ≤ R.frames) (hl : W + (maxL + 11) + rm.locals ≤ R.locals)
    (hk' : k + rm.cells = k') (hn' : n + rm.slots = n') (hc : k' ≤ R.cells) (hsl : n' ≤ R.slots)
    (g : ∀ vm' T' h' v, On C R own b ml rt nm q Z a0 EL n0 vm' T' h' k' n' → CHr Z EL vm h vm' h' → Q' v h' → Go C R q Z EL n0 Q T' pc' Ls (v.toList ++ st)) : Go C R q Z EL n0 Q T pc Ls sta := by
  subst hl0 hst
  obtain ⟨-, rfl⟩ := id hi
  obtain ⟨⟨k0, locs, S, N, hS, hk⟩, -, -, -, hml, -⟩ := id X
  obtain ⟨v, vm1, B, -, S', s1, s2, hp, stp⟩ := callSS S X.exec (y := y) X.owned (mv (s := C.s.setVm vm) X.zw w1) (mv (s := C.s.setVm vm) X.zw w2) (mv (s := C.s.setVm vm) X.zw w3) (mv (s := C.s.setVm vm) X.zw w4) hy (backQ (W := W) hM X.zw w4 w3 hf hl X.ew X.chv hs) (g := mkF C.m pc Ls (argsL.reverse ++ st)) rfl (hsz.trans hml.symm) (argsL := argsL) (rest := st) (lenOf hd hn) rfl (by show 2 * 0 + _ ≤ _; omega) (X.dec hi)
    (fun _ _ => ⟨rfl, X.eT, hk' ▸ hc, hn' ▸ hsl⟩)
  obtain ⟨X', r1, r2⟩ := X.after (Q' := Q' v) N hS hk S' s1 s2 hp hk' hn'
  exact Go.of (fun t u => stp.trans u) (g _ _ _ v X' r1 r2)
theorem On.callI (X : On C R own b ml rt nm q Z a0 EL n0 vm T h k n) {l : Launch} (hl0 : C.l = l) {ix W k' n' : Nat} {y : MethodName} {bytes : ByteArray} {maxL : Nat} {r : Option FieldType} {ps : List FieldType} {rm : Room} {Q' : Option Value → Heap → Prop} {ws : List Addr} {a : Addr} {argsL sta : List Value} (hi : Ins b pc (.invokespecial ix) 3 pc')
    (hM : Con [] q l Z EL n0 ws y bytes maxL none rm (.ref a :: argsL).toArray h Q') (w1 : (Cond.methodLink own ix y).before a0 Z = true) (w2 : (Cond.instanceMethod y).before a0 Z = true) (w3 : (Cond.initialized y.cls).before a0 Z = true) (w4 : (Cond.code y bytes maxL none).before a0 Z = true) (hy1 : y.name = "<init>") (hy : y.cls ≠ "java/lang/invoke/MethodHandle" ∧ y.cls ≠ "java/lang/invoke/VarHandle")
    (hs : ∀ x ∈ ws, Safe Z EL vm h x ∧ x < h.size) (hd : parseMethodDescriptor y.desc = some ⟨ps, r⟩) (hn : argsL.length = ps.length) (hst : sta = argsL.reverse ++ .ref a :: st) (hsz : Ls.size = ml) (hW : 0 + (st.map fun v => v.category).sum = W) (hf : rm.frames + 1 ≤ R.frames) (hl : W + (maxL + 11) + rm.locals ≤ R.locals)
    (hk' : k + rm.cells = k') (hn' : n + rm.slots = n') (hc : k' ≤ R.cells) (hsl : n' ≤ R.slots)
    (g : ∀ vm' T' h' v, On C R own b ml rt nm q Z a0 EL n0 vm' T' h' k' n' → CHr Z EL vm h vm' h' → Q' v h' → Go C R q Z EL n0 Q T' pc' Ls (v.toList ++ st)) : Go C R q Z EL n0 Q T pc Ls sta := by
  subst hl0 hst
  obtain ⟨-, rfl⟩ := id hi
  obtain ⟨⟨k0, locs, S, N, hS, hk⟩, -, -, -, hml, -⟩ := id X
  obtain ⟨v, vm1, B, -, S', s1, s2, hp, stp⟩ := S.specialBackS X.exec (y := y) hy1 X.owned (mv (s := C.s.setVm vm) X.zw w1) (mv (s := C.s.setVm vm) X.zw w2) (mv (s := C.s.setVm vm) X.zw w4) hy (backQ (W := W) hM X.zw w4 w3 hf hl X.ew X.chv hs) (g := mkF C.m pc Ls (argsL.reverse ++ .ref a :: st)) rfl (hsz.trans hml.symm) (Steps.refl _) (a := a) (argsL := argsL) (rest := st) (lenOf hd hn) rfl (by show 2 * 0 + _ ≤ _; omega) (X.dec hi)
    (fun _ _ => ⟨rfl, X.eT, hk' ▸ hc, hn' ▸ hsl⟩)
  obtain ⟨X', r1, r2⟩ := X.after (Q' := Q' v) N hS hk S' s1 s2 hp hk' hn'
  exact Go.of (fun t u => stp.trans u) (g _ _ _ v X' r1 r2)
/-- an instance method: y as the entry names it, z as the receiver's class Cl selects it -/
theorem On.callV (X : On C R own b ml rt nm q Z a0 EL n0 vm T h k n) {l : Launch} (hl0 : C.l = l) {ix W k' n' : Nat} {y z : MethodName} {Cl : String} {bytes : ByteArray} {maxL : Nat} {ret r : Option FieldType} {ps : List FieldType} {rm : Room} {Q' : Option Value → Heap → Prop} {ws : List Addr} {a : Addr} {argsL sta : List Value} (hi : Ins b pc (.invokevirtual ix) 3 pc')
    (hM : Con [] q l Z EL n0 ws z bytes maxL ret rm (.ref a :: argsL).toArray h Q') (E : Exa Z h a Cl) (w1 : (Cond.methodLink own ix y).before a0 Z = true) (w2 : (Cond.declares y).before a0 Z = true) (w5 : (Cond.selects Cl y z).before a0 Z = true) (hnf : NotFace (C.s.setVm vm) y) (w6 : (Cond.instanceMethod z).before a0 Z = true) (w3 : (Cond.initialized z.cls).before a0 Z = true) (w4 : (Cond.code z bytes maxL ret).before a0 Z = true) (hy : y.cls ≠ "java/lang/invoke/MethodHandle" ∧ y.cls ≠ "java/lang/invoke/VarHandle")
    (hs : ∀ x ∈ ws, Safe Z EL vm h x ∧ x < h.size) (hd : parseMethodDescriptor y.desc = some ⟨ps, r⟩) (hn : argsL.length = ps.length) (hst : sta = argsL.reverse ++ .ref a :: st) (hsz : Ls.size = ml) (hW : 0 + (st.map fun v => v.category).sum = W) (hf : rm.frames + 1 ≤ R.frames) (hl : W + (maxL + 11) + rm.locals ≤ R.locals)
    (hk' : k + rm.cells = k') (hn' : n + rm.slots = n') (hc : k' ≤ R.cells) (hsl : n' ≤ R.slots)
    (g : ∀ vm' T' h' v, On C R own b ml rt nm q Z a0 EL n0 vm' T' h' k' n' → CHr Z EL vm h vm' h' → Q' v h' → Go C R q Z EL n0 Q T' pc' Ls (v.toList ++ st)) : Go C R q Z EL n0 Q T pc Ls sta := by
  subst hl0 hst
  obtain ⟨-, rfl⟩ := id hi
  obtain ⟨⟨k0, locs, S, N, hS, hk⟩, -, -, -, hml, -⟩ := id X
  obtain ⟨cB, kB, q1, q2, q3⟩ := isOf (s := C.s.setVm vm) X.zw X.eT E
  obtain ⟨v, vm1, B, -, S', s1, s2, hp, stp⟩ := S.virtualBackS X.exec (y := y) (z := z) X.owned (mv (s := C.s.setVm vm) X.zw w1) (mv (s := C.s.setVm vm) X.zw w2) hnf (mv (s := C.s.setVm vm) X.zw w5) (mv (s := C.s.setVm vm) X.zw w6) hy (backQ (W := W) hM X.zw w4 w3 hf hl X.ew X.chv hs) q1 q3 (g := mkF C.m pc Ls (argsL.reverse ++ .ref a :: st)) rfl (hsz.trans hml.symm) (Steps.refl _) (argsL := argsL) (rest := st) (lenOf hd hn) rfl (by show 2 * 0 + _ ≤ _; omega) (X.dec hi)
    (fun _ _ => ⟨rfl, X.eT, hk' ▸ hc, hn' ▸ hsl⟩)
  obtain ⟨X', r1, r2⟩ := X.after (Q' := Q' v) N hS hk S' s1 s2 hp hk' hn'
  exact Go.of (fun t u => stp.trans u) (g _ _ _ v X' r1 r2)
theorem nfSel {s : State} {Cl : String} {y : MethodName} (hZ : Z.Warmed39 vm) (w : (Cond.selects Cl y y).before a0 Z = true) : NotFace (s.setVm vm) y := notFace_of_selects (args := #[]) (mv (s := s.setVm vm) hZ w)
end Calls
end Jvm.Own
namespace Jvm.Own
open Jvm Jvm.ClassFile Sem Op Lib Jvm.Free Jvm.Stand Jvm.LawKit Jvm.RoadKit Bundle
/-! ### calls that a Back pays, and Strings -/
section Backs
variable {C : Cx} {R : Room} {own : String} {b : ByteArray} {ml : Nat} {rt : Option FieldType} {nm : String} {q : Bool} {Z : State} {a0 : Array Value} {EL : List (String × Nat)} {n0 : Nat} {vm : Vm} {T : State} {h : Heap} {k n : Nat} {Q : Option Value → Heap → Prop} {pc pc' pt : Nat} {Ls Ls' : Array Slot} {st : List Value}
theorem On.backI (X : On C R own b ml rt nm q Z a0 EL n0 vm T h k n) {ix W k' n' kc ks : Nat} {y : MethodName} {bytes : ByteArray} {maxL : Nat} {r : Option FieldType} {ps : List FieldType} {QQ : Option Value → Heap → List Loc → Prop} {a : Addr} {argsL sta : List Value} (hi : Ins b pc (.invokespecial ix) 3 pc')
    (hK : Back C.l R C.p C.e C.below (C.s.setVm vm) C.args y 3 W (fun P a' => a' = (.ref a :: argsL).toArray ∧ P.U.heap = h ∧ P.cells + kc ≤ R.cells ∧ P.slots + ks ≤ R.slots) (fun P _ v B => ∃ L, QQ v B.U.heap L ∧ B.locs = P.locs ++ L ∧ B.cells = P.cells + kc ∧ B.slots = P.slots + ks))
    (hQ : ∀ v h' L, QQ v h' L → Fr n0 L ∧ CHr Z EL vm h vm h' ∧ Old Z n0 h') (w1 : (Cond.methodLink own ix y).before a0 Z = true) (w2 : (Cond.instanceMethod y).before a0 Z = true) (w4 : (Cond.code y bytes maxL none).before a0 Z = true) (hy1 : y.name = "<init>") (hy : y.cls ≠ "java/lang/invoke/MethodHandle" ∧ y.cls ≠ "java/lang/invoke/VarHandle")
    (hd : parseMethodDescriptor y.desc = some ⟨ps, r⟩) (hn : argsL.length = ps.length) (hst : sta = argsL.reverse ++ .ref a :: st) (hsz : Ls.size = ml) (hW : 0 + (st.map fun v => v.category).sum = W)
    (hk' : k + kc = k') (hn' : n + ks = n') (hc : k' ≤ R.cells) (hsl : n' ≤ R.slots)
    (g : ∀ T' h' v L, On C R own b ml rt nm q Z a0 EL n0 vm T' h' k' n' → QQ v h' L → Go C R q Z EL n0 Q T' pc' Ls (v.toList ++ st)) : Go C R q Z EL n0 Q T pc Ls sta := by
  subst hst hk' hn'
  obtain ⟨-, rfl⟩ := id hi
  obtain ⟨⟨k0, locs, S, N, hS, hk⟩, -, -, -, hml, -⟩ := id X
  obtain ⟨v, vm1, B, -, S', hp, stp⟩ := S.specialBack X.exec (y := y) hy1 X.owned (mv (s := C.s.setVm vm) X.zw w1) (mv (s := C.s.setVm vm) X.zw w2) (mv (s := C.s.setVm vm) X.zw w4) hy hK (g := mkF C.m pc Ls (argsL.reverse ++ .ref a :: st)) rfl (hsz.trans hml.symm) (Steps.refl _) (a := a) (argsL := argsL) (rest := st) (lenOf hd hn) rfl (by show 2 * 0 + _ ≤ _; omega) (X.dec hi)
    (fun _ _ => ⟨rfl, X.eT, hc, hsl⟩)
  obtain ⟨L, r1, r2, r3, r4⟩ := hp
  rw [r2, r3, r4] at S'
  obtain ⟨f1, f2, f3⟩ := hQ v _ L r1
  exact Go.of (fun t u => stp.trans u) (g _ _ v L (X.put S' (N.app f1) hS hk rfl f2 f3) r1)
theorem On.backVt (X : On C R own b ml rt nm q Z a0 EL n0 vm T h k n) {ix W k' n' kc ks : Nat} {y z : MethodName} {Cl : String} {r : Option FieldType} {ps : List FieldType} {QQ : Option Value → Heap → List Loc → Prop} {a : Addr} {argsL sta : List Value} (hi : Ins b pc (.invokevirtual ix) 3 pc')
    (hK : Back C.l R C.p C.e C.below (C.s.setVm vm) C.args z 3 W (fun P a' => a' = (.ref a :: argsL).toArray ∧ P.U.heap = h ∧ P.cells + kc ≤ R.cells ∧ P.slots + ks ≤ R.slots) (fun P _ v B => ∃ L, QQ v B.U.heap L ∧ B.locs = P.locs ++ L ∧ B.cells = P.cells + kc ∧ B.slots = P.slots + ks))
    (hQ : ∀ v h' L, QQ v h' L → Fr n0 L ∧ CHr Z EL vm h vm h' ∧ Old Z n0 h') (E : Exa Z h a Cl) (w1 : (Cond.methodLink own ix y).before a0 Z = true) (w2 : (Cond.declares y).before a0 Z = true) (w5 : (Cond.selects Cl y z).before a0 Z = true) (hnf : NotFace (C.s.setVm vm) y) (w6 : (Cond.instanceMethod z).before a0 Z = true) (hy : y.cls ≠ "java/lang/invoke/MethodHandle" ∧ y.cls ≠ "java/lang/invoke/VarHandle")
    (hd : parseMethodDescriptor y.desc = some ⟨ps, r⟩) (hn : argsL.length = ps.length) (hst : sta = argsL.reverse ++ .ref a :: st) (hsz : Ls.size = ml) (hW : 0 + (st.map fun v => v.category).sum = W)
    (hk' : k + kc = k') (hn' : n + ks = n') (hc : k' ≤ R.cells) (hsl : n' ≤ R.slots)
    (g : ∀ T' h' v L, On C R own b ml rt nm q Z a0 EL n0 vm T' h' k' n' → QQ v h' L → Go C R q Z EL n0 Q T' pc' Ls (v.toList ++ st)) : Go C R q Z EL n0 Q T pc Ls sta := by
  subst hst hk' hn'
  obtain ⟨-, rfl⟩ := id hi
  obtain ⟨⟨k0, locs, S, N, hS, hk⟩, -, -, -, hml, -⟩ := id X
  obtain ⟨cB, kB, q1, q2, q3⟩ := isOf (s := C.s.setVm vm) X.zw X.eT E
  obtain ⟨v, vm1, B, -, S', hp, stp⟩ := S.virtualBack X.exec (y := y) (z := z) X.owned (mv (s := C.s.setVm vm) X.zw w1) (mv (s := C.s.setVm vm) X.zw w2) hnf (mv (s := C.s.setVm vm) X.zw w5) (mv (s := C.s.setVm vm) X.zw w6) hy hK q1 q3 (g := mkF C.m pc Ls (argsL.reverse ++ .ref a :: st)) rfl (hsz.trans hml.symm) (Steps.refl _) (argsL := argsL) (rest := st) (lenOf hd hn) rfl (by show 2 * 0 + _ ≤ _; omega) (X.dec hi)
    (fun _ _ => ⟨rfl, X.eT, hc, hsl⟩)
  obtain ⟨L, r1, r2, r3, r4⟩ := hp
  rw [r2, r3, r4] at S'
  obtain ⟨f1, f2, f3⟩ := hQ v _ L r1
  exact Go.of (fun t u => stp.trans u) (g _ _ v L (X.put S' (N.app f1) hS hk rfl f2 f3) r1)
end Backs
/-- a Latin-1 String and its byte[] -/
def Str (Z : State) (h : Heap) (x t : Addr) (kb : ClassId) (cs : List Int32) : Prop :=
  Exa Z h x "java/lang/String" ∧ Fld Z h x "java/lang/String" "value" "[B" (.ref t) ∧ Fld Z h x "java/lang/String" "coder" "B" (.int 0) ∧ Arv Z h t kb .byte (Int32.ofNat cs.length) (cs.map fun c => Value.int c.toInt8.toInt32) (.int 0) ∧ ∀ c ∈ cs, ¬ c < 0 ∧ ¬ (255 : Int32) < c
section Strs
variable {Z : State} {h h' : Heap} {x t a : Addr} {kb : ClassId} {cs : List Int32} {ws : List Addr} {sl : Nat} {v : Value}
theorem Str.ext (F : Str Z h x t kb cs) (E : Ext h h') : Str Z h' x t kb cs := ⟨F.1.ext E, F.2.1.ext E, F.2.2.1.ext E, F.2.2.2.1.ext E, F.2.2.2.2⟩
theorem Str.keep (F : Str Z h x t kb cs) (K : Keep h h' ws) (hx : x ∉ ws) (ht : t ∉ ws) : Str Z h' x t kb cs := ⟨F.1.keep K, F.2.1.keep K hx, F.2.2.1.keep K hx, F.2.2.2.1.keep K ht, F.2.2.2.2⟩
theorem Str.wr (F : Str Z h x t kb cs) (W : Wr h h' a sl v) (hx : x ≠ a) (ht : t ≠ a) : Str Z h' x t kb cs := ⟨F.1.wr W, F.2.1.other W (Or.inl hx), F.2.2.1.other W (Or.inl hx), F.2.2.2.1.other W ht, F.2.2.2.2⟩
theorem Str.lt (F : Str Z h x t kb cs) : x < h.size := F.1.lt
theorem Str.ltT (F : Str Z h x t kb cs) : t < h.size := F.2.2.2.1.lt
theorem own_all0 : ∀ c ∈ ([] : List Int32), ¬ c < 0 ∧ ¬ (255 : Int32) < c := fun _ z => nomatch z
theorem own_allS {c : Int32} {l : List Int32} (p : ¬ c < 0 ∧ ¬ (255 : Int32) < c) (r : ∀ x ∈ l, ¬ x < 0 ∧ ¬ (255 : Int32) < x) : ∀ x ∈ c :: l, ¬ x < 0 ∧ ¬ (255 : Int32) < x := fun x hx => (List.mem_cons.mp hx).elim (fun e => e ▸ p) (r x)
theorem own_and255 (x : Int32) : ¬ (x &&& (255 : Int32)) < 0 ∧ ¬ (255 : Int32) < (x &&& (255 : Int32)) := by
  have q := c_and x 255 (by decide)
  have e : (255 : Int32).toInt = 255 := by decide
  have e0 : (0 : Int32).toInt = 0 := by decide
  rw [e] at q
  constructor
  · intro z; have := Int32.lt_iff_toInt_lt.mp z; omega
  · intro z; have := Int32.lt_iff_toInt_lt.mp z; omega
theorem sf_nil {EL : List (String × Nat)} {vm : Vm} : ∀ x ∈ ([] : List Addr), Safe Z EL vm h x ∧ x < h.size := fun _ z => nomatch z
theorem sf_cons {EL : List (String × Nat)} {vm : Vm} {l : List Addr} (p : Safe Z EL vm h x ∧ x < h.size) (r : ∀ x ∈ l, Safe Z EL vm h x ∧ x < h.size) : ∀ y ∈ x :: l, Safe Z EL vm h y ∧ y < h.size := fun y hy => (List.mem_cons.mp hy).elim (fun e => e ▸ p) (r y)
theorem up16 {c : Int32} (hc : ¬ c < 0 ∧ ¬ (255 : Int32) < c) : ¬ c < 0 ∧ ¬ (65535 : Int32) < c := ⟨hc.1, fun z => hc.2 (Int32.lt_trans (by decide) z)⟩
end Strs
end Jvm.Own
namespace Jvm.Own
open Jvm Jvm.ClassFile Sem Op Lib Jvm.Free Jvm.Stand Jvm.LawKit Jvm.RoadKit Bundle
/-! ### String constants -/
section Ldc
variable {C : Cx} {R : Room} {own : String} {b : ByteArray} {ml : Nat} {rt : Option FieldType} {nm : String} {q : Bool} {Z : State} {a0 : Array Value} {EL : List (String × Nat)} {n0 : Nat} {vm : Vm} {T : State} {h : Heap} {k n : Nat} {Q : Option Value → Heap → Prop} {pc pc' pt : Nat} {Ls Ls' : Array Slot} {st : List Value}
theorem On.ldcS (X : On C R own b ml rt nm q Z a0 EL n0 vm T h k n) (hq : q = false) {ix k' n' nn : Nat} {text : String} {cs : List Int32} (hi : Ins b pc (.ldc ix) 2 pc') (w : (Cond.stringLink own ix text).before a0 Z = true) (wS : ∀ a ∈ Bundle.stringAtoms, a.before a0 Z = true) (hmem : (own, ix) ∈ EL)
    (h1 : ∀ c ∈ text.toList, c.toNat < 256) (h2 : text.toList.map (fun c => Value.int (Jvm.Lit.byteI c.toNat.toUInt16)) = cs.map fun c => Value.int c.toInt8.toInt32) (h3 : ∀ c ∈ cs, ¬ c < 0 ∧ ¬ (255 : Int32) < c) (h4 : cs.length ≤ 4000) (h5 : 4 * text.toList.length ≤ nn) (h6 : nn ≤ 536870912)
    (hk' : k + 2 = k') (hn' : n + (nn + 4) = n') (hc : k' ≤ R.cells) (hsl : n' ≤ R.slots)
    (g : ∀ vm' T' h' a t kb, On C R own b ml rt nm q Z a0 EL n0 vm' T' h' k' n' → Ext h h' → CHr Z EL vm h vm' h' → Str Z h' a t kb cs → (∀ x, Safe Z EL vm' h' x → x ≠ a ∧ x ≠ t) → Go C R q Z EL n0 Q T' pc' Ls (.ref a :: st)) : Go C R q Z EL n0 Q T pc Ls st := by
  subst hk' hn' hq
  obtain ⟨-, rfl⟩ := id hi
  obtain ⟨⟨k0, locs, S, N, hS, hk⟩, -⟩ := id X
  have hz : ¬ (Int32.ofNat cs.length) < 0 := by
    intro z
    have z1 := Int32.lt_iff_toInt_lt.mp z
    have e1 : (Int32.ofNat cs.length).toInt = cs.length := Int32.toInt_ofNat_small (by omega)
    have e2 : (0 : Int32).toInt = 0 := by decide
    omega
  have hl : (Int32.ofNat cs.length).toNatClampNeg = (cs.map fun c => Value.int c.toInt8.toInt32).length := by
    have e1 : (Int32.ofNat cs.length).toInt = cs.length := Int32.toInt_ofNat_small (by omega)
    rw [List.length_map]
    show (Int32.ofNat cs.length).toInt.toNat = _
    rw [e1]; rfl
  obtain ⟨a, T', h', k1, t, kb, S', e', E', hS', hk1, hZ', ho', A1, A2, A3, A4, -, -, hC, -, hne, st'⟩ := ldcCH S X.exec X.zw X.owned w wS X.eT hS hk X.ew hmem X.chv ⟨h1, h2⟩ hz hl (g := mkF C.m pc Ls st) rfl (X.dec hi) h5 h6 hc hsl
  refine Go.of st' (g T'.vm T' h' a t kb ?_ E' hC ⟨A1, A3, A2, A4, h3⟩ hne)
  obtain ⟨-, -, e2, e3, e4, e5, e6, e7, -, -, e10, e11, -, e13⟩ := X
  exact ⟨⟨k1, locs, S', N, hS', hk1⟩, e', e2, e3, e4, e5, e6, e7, hZ', ho', e10, e11.trans hC, (fun z => nomatch z), e13.ext E'⟩
theorem On.instNull (X : On C R own b ml rt nm q Z a0 EL n0 vm T h k n) {ix : Nat} (hi : Ins b pc (.instanceof ix) 3 pc') (g : Go C R q Z EL n0 Q T pc' Ls (.int 0 :: st)) : Go C R q Z EL n0 Q T pc Ls (.null :: st) := by
  obtain ⟨-, rfl⟩ := id hi
  obtain ⟨⟨k0, locs, S, N, hS, hk⟩, -⟩ := id X
  exact Go.of (S.instanceofNull X.exec (g := mkF C.m pc Ls (.null :: st)) rfl rfl (X.dec hi)) g
theorem On.castNull (X : On C R own b ml rt nm q Z a0 EL n0 vm T h k n) {ix : Nat} (hi : Ins b pc (.checkcast ix) 3 pc') (g : Go C R q Z EL n0 Q T pc' Ls (.null :: st)) : Go C R q Z EL n0 Q T pc Ls (.null :: st) := by
  obtain ⟨-, rfl⟩ := id hi
  obtain ⟨⟨k0, locs, S, N, hS, hk⟩, -⟩ := id X
  exact Go.of (S.checkcastNull X.exec (g := mkF C.m pc Ls (.null :: st)) rfl rfl (X.dec hi)) g
end Ldc
section Kinds
variable {Z : State} {a0 : Array Value}
theorem nsRoot {O K : String} {nk : Nat} (w : (Cond.noSuperclass O).before a0 Z = true) (wk : (Cond.instantiable K nk).before a0 Z = true) (hn : O ≠ K) : NS Z O K := by
  obtain ⟨c, k, h1, h2, h3, -, -⟩ := Cond.noSuperclass_spec w
  obtain ⟨t, kt, g1, -⟩ := Cond.instantiable_spec wk
  have ne := ids_ne h1 g1 hn
  refine ⟨c, t, h1, g1, fun fuel => ?_⟩
  cases fuel with
  | zero => rfl
  | succ f => simp [Vm.isSubclassAux, ne, h2, h3]
theorem nsNo {Cl K : String} {nc nk : Nat} (wc : (Cond.instantiable Cl nc).before a0 Z = true) (wk : (Cond.instantiable K nk).before a0 Z = true) (N : NS Z Cl K) (hn : Cl ≠ K) : ∃ c t, Z.vm.findClass Cl = some c ∧ Z.vm.findClass K = some t ∧ Z.vm.assignable c t = false := by
  obtain ⟨c, t, h0, g0, n3⟩ := N
  obtain ⟨c', kc, a1, a2, a3, -⟩ := Cond.instantiable_spec wc
  cases h0.symm.trans a1
  obtain ⟨t', kt, b1, b2, b3, b4, -⟩ := Cond.instantiable_spec wk
  cases g0.symm.trans b1
  have ne := ids_ne h0 g0 hn
  have b5 : kt.isInterface = false := (Bool.or_eq_false_iff.mp b4).1
  refine ⟨c, t, h0, g0, ?_⟩
  show Z.vm.assignableAux (255 + 1) c t = false
  simp [Vm.assignableAux, ne, a2, b2, a3, b3, b5, Vm.isSubclass, n3]
end Kinds
end Jvm.Own
/- laws to paste: Road.backV, Road.eqW (cut by pick.py; bodies as the Statement names them) -/
namespace Jvm.Pilot.@@N@@
namespace StrChars
open Jvm Sem ClassFile Op Lib Jvm.Stand Jvm.Free.XT Jvm.Free.ALB Jvm.Free.JM Jvm.Free
open Jvm.Lib.Cold (StaticIs)
/-- a char array whose places are chars -/
def Ch (a : Addr) (A : Cell) (U : State) : Prop := Arr .char a A U ∧ Typed .char A
theorem Ch.mv {a : Addr} {A : Cell} {U U' : State} (h : Ch a A U) (hal : U.vm.Alike U'.vm) (hh : U'.heap = U.heap) : Ch a A U' := ⟨h.1.mv hal hh, h.2⟩
theorem Ch.keep {a : Addr} {A : Cell} {U U' : State} (h : Ch a A U) (hal : U.vm.Alike U'.vm) (hk : U'.heap[a]? = some A) : Ch a A U' := ⟨h.1.keep hal hk, h.2⟩
/-- what place i of a char[]'s cell holds -/
def cv (A : Cell) (i : Nat) : Int32 := match A.slots[i]? with | some (.int x) => x | _ => 0
theorem Ch.get {a : Addr} {A : Cell} {U : State} (h : Ch a A U) {i : Nat} (hi : i < A.slots.size) : A.slots[i]? = some (.int (cv A i)) := by
  have e := Array.getElem?_eq_getElem hi
  have f := h.2 i _ e
  unfold cv; rw [e]
  generalize A.slots[i] = v at f
  cases v <;> simp [fits] at f ⊢
/-- the byte that i2b leaves of a char -/
def lo8 (x : Int32) : Int32 := x.toInt8.toInt32
theorem fits_lo8 (y : Int32) : fits .byte (.int (lo8 y)) = true := by
  have h1 := y.toInt8.le_toInt
  have h2 := y.toInt8.toInt_lt
  simp only [lo8, fits, Bool.and_eq_true, decide_eq_true_eq, Int32.le_iff_toInt_le, Int8.toInt_toInt32, show (-128 : Int32).toInt = -128 from by decide, show (127 : Int32).toInt = 127 from by decide]
  omega
/-- A' is A but that each place j of lo .. hi - 1 holds f j -/
def Laid (A A' : Cell) (lo hi : Nat) (f : Nat → Value) : Prop := A'.cls = A.cls ∧ A'.vm = A.vm ∧ A'.slots.size = A.slots.size ∧ ∀ i, A'.slots[i]? = if lo ≤ i ∧ i < hi then some (f i) else A.slots[i]?
theorem Laid.zero (A : Cell) (lo : Nat) (f : Nat → Value) : Laid A A lo (lo + 0) f := ⟨rfl, rfl, rfl, fun i => by rw [if_neg (by omega)]⟩
theorem Laid.step {A Ak : Cell} {lo k : Nat} {f : Nat → Value} {v : Value} (h : Laid A Ak lo k f) (hlo : lo ≤ k) (hk : k < Ak.slots.size) (hv : v = f k) : Laid A (Ak.setSlot k v) lo (k + 1) f := by
  refine ⟨h.1, h.2.1, by simpa [Cell.setSlot] using h.2.2.1, fun i => ?_⟩
  by_cases e : k = i
  · subst e; rw [Cell.slots_setSlot_self v hk, if_pos (by omega), hv]
  · rw [Cell.slots_setSlot_ne v e, h.2.2.2 i]
    by_cases q : lo ≤ i ∧ i < k
    · rw [if_pos q, if_pos (by omega)]
    · rw [if_neg q, if_neg (by omega)]
def U16 : String := "java/lang/StringUTF16"
namespace Cmp5
def yN : MethodName := ⟨"java/lang/StringUTF16", "compress", "([CI[BII)I"⟩
abbrev yB : ByteArray := jdk_52_method_21_code
theorem d0 : decode yB 0 = .ok (.iconst 0, 1) := by decide +kernel
theorem d1 : decode yB 1 = .ok (.istore 5, 2) := by decide +kernel
theorem d3 : decode yB 3 = .ok (.iload 5, 2) := by decide +kernel
theorem d5 : decode yB 5 = .ok (.iload 4, 2) := by decide +kernel
theorem d7 : decode yB 7 = .ok (.if_icmp (.ge) 37, 3) := by decide +kernel
theorem d10 : decode yB 10 = .ok (.aload_n 0, 1) := by decide +kernel
theorem d11 : decode yB 11 = .ok (.iload_n 1, 1) := by decide +kernel
theorem d12 : decode yB 12 = .ok (.caload, 1) := by decide +kernel
theorem d13 : decode yB 13 = .ok (.istore 6, 2) := by decide +kernel
theorem d15 : decode yB 15 = .ok (.iload 6, 2) := by decide +kernel
theorem d17 : decode yB 17 = .ok (.sipush 255, 3) := by decide +kernel
theorem d20 : decode yB 20 = .ok (.if_icmp (.le) 6, 3) := by decide +kernel
theorem d26 : decode yB 26 = .ok (.aload_n 2, 1) := by decide +kernel
theorem d27 : decode yB 27 = .ok (.iload_n 3, 1) := by decide +kernel
theorem d28 : decode yB 28 = .ok (.iload 6, 2) := by decide +kernel
theorem d30 : decode yB 30 = .ok (.i2b, 1) := by decide +kernel
theorem d31 : decode yB 31 = .ok (.bastore, 1) := by decide +kernel
theorem d32 : decode yB 32 = .ok (.iinc 1 1, 3) := by decide +kernel
theorem d35 : decode yB 35 = .ok (.iinc 3 1, 3) := by decide +kernel
theorem d38 : decode yB 38 = .ok (.iinc 5 1, 3) := by decide +kernel
theorem d41 : decode yB 41 = .ok (.goto (-38), 3) := by decide +kernel
theorem d44 : decode yB 44 = .ok (.iload 4, 2) := by decide +kernel
theorem d46 : decode yB 46 = .ok (.ireturn, 1) := by decide +kernel
def site : List Cond := []
def tab : Cond := tabOf yN yB 7 (some .int) site
def P (b : Addr) (A : Cell) (d : Addr) (B : Cell) (o q len : Nat) (args : Array Value) (s : State) : Prop := args = #[.ref b, .int (Int32.ofNat o), .ref d, .int (Int32.ofNat q), .int (Int32.ofNat len)] ∧ Ch b A s ∧ Arr .byte d B s ∧ b ≠ d ∧ o + len ≤ A.slots.size ∧ q + len ≤ B.slots.size ∧ ∀ i, i < len → ¬ 255 < cv A (o + i)
def E (b : Addr) (A : Cell) (d : Addr) (B : Cell) (o q len : Nat) (r : Option Value) (s u : State) : Prop := r = some (.int (Int32.ofNat len)) ∧ ∃ B', Put d B' s u ∧ Laid B B' q (q + len) (fun j => Value.int (lo8 (cv A (o + (j - q)))))
/-- no char of the range above 255: len; the places written hold each char's low byte -/
theorem law (l : Launch) (b : Addr) (A : Cell) (d : Addr) (B : Cell) (o q len : Nat) : Law l yN 5 5 0 0 yB 7 (some .int) site (P b A d B o q len) (E b A d B o q len) (copyLocs d q len) 0 0 := by
  refine Law.of_walk (plainFor_of_name (by decide +kernel)) (by decide +kernel) (by decide +kernel) (by decide) (fun _ _ h => by rw [h.1]; rfl) (fun _ U U' hal hh h => ⟨h.1, h.2.1.mv hal hh, h.2.2.1.mv hal hh, h.2.2.2⟩) (fun r U U' V V' h1 hal h2 h => ⟨h.1, h.2.elim fun B' q => ⟨B', q.1.mv h1 h2, q.2⟩⟩) ?_
  intro p e s m args below meth c s₁ X0 hexec hbytes hml hret hlk hnm hown hh0 W hP
  obtain ⟨rfl, hA, hB, hne, l1, l2, hp⟩ := hP
  have c1 : Steps p.tables e below (s₁.setTop (entryFrame m #[.ref b, .int (Int32.ofNat o), .ref d, .int (Int32.ofNat q), .int (Int32.ofNat len)] 7)) (s₁.setTop (mkF m 0 #[.val (.ref b), .val (.int (Int32.ofNat o)), .val (.ref d), .val (.int (Int32.ofNat q)), .val (.int (Int32.ofNat len)), .unset, .unset] [])) := entry rfl
  have hA0 := hA.1.mv X0.warmed.alike hh0
  have hB0 := hB.mv X0.warmed.alike hh0
  have a31 := hA.1.2.2.2
  have c2 : Steps p.tables e below (s₁.setTop (entryFrame m #[.ref b, .int (Int32.ofNat o), .ref d, .int (Int32.ofNat q), .int (Int32.ofNat len)] 7)) (s₁.setTop (mkF m 3 #[.val (.ref b), .val (.int (Int32.ofNat o)), .val (.ref d), .val (.int (Int32.ofNat q)), .val (.int (Int32.ofNat len)), .val (.int 0), .unset] [])) := c1.trans (by
    refine iconstV X0.here hexec rfl 0 (hb hbytes d0) (by decide) ?_
    refine XS.istore X0.here hexec rfl (hb hbytes d1) rfl rfl ?_
    exact Steps.refl _)
  have loop : ∀ (r i : Nat), i + r = len → ∀ (z : Slot), (z = .unset ∨ ∃ w, z = .val w ∧ w.category = 1) → ∀ (Tl : State) (Bk : Cell), Stand p l e { frames := 0, locals := 0, cells := 0, slots := 0 } s m #[.ref b, .int (Int32.ofNat o), .ref d, .int (Int32.ofNat q), .int (Int32.ofNat len)] below meth c Tl ([] ++ copyLocs d q i) 0 0 → Put d Bk s₁ Tl → Laid B Bk q (q + i) (fun j => Value.int (lo8 (cv A (o + (j - q))))) →
      Steps p.tables e below (s₁.setTop (entryFrame m #[.ref b, .int (Int32.ofNat o), .ref d, .int (Int32.ofNat q), .int (Int32.ofNat len)] 7)) (Tl.setTop (mkF m 3 #[.val (.ref b), .val (.int (Int32.ofNat (o + i))), .val (.ref d), .val (.int (Int32.ofNat (q + i))), .val (.int (Int32.ofNat len)), .val (.int (Int32.ofNat i)), z] [])) → ∃ (T' : State) (B' : Cell) (z' : Slot), Stand p l e { frames := 0, locals := 0, cells := 0, slots := 0 } s m #[.ref b, .int (Int32.ofNat o), .ref d, .int (Int32.ofNat q), .int (Int32.ofNat len)] below meth c T' ([] ++ copyLocs d q len) 0 0 ∧ Put d B' s₁ T' ∧ Laid B B' q (q + len) (fun j => Value.int (lo8 (cv A (o + (j - q))))) ∧
      Steps p.tables e below (s₁.setTop (entryFrame m #[.ref b, .int (Int32.ofNat o), .ref d, .int (Int32.ofNat q), .int (Int32.ofNat len)] 7)) (T'.setTop (mkF m 3 #[.val (.ref b), .val (.int (Int32.ofNat (o + len))), .val (.ref d), .val (.int (Int32.ofNat (q + len))), .val (.int (Int32.ofNat len)), .val (.int (Int32.ofNat len)), z'] [])) := by
    intro r
    induction r with
    | zero =>
      intro i hi z hz Tl Bk Xl pl fl cl
      have hil : i = len := by omega
      rw [hil] at Xl fl cl
      exact ⟨Tl, Bk, z, Xl, pl, fl, cl⟩
    | succ r ih =>
      intro i hi z hz Tl Bk Xl pl fl cl
      have all := X0.warmed.alike.symm.trans Xl.warmed.alike
      have hAl := hA0.keep all (pl.other hne hA0.1)
      have hBk := hB0.like all pl.1 fl.1 fl.2.1 fl.2.2.1
      have hlt : q + i < Bk.slots.size := by rw [fl.2.2.1]; omega
      have c3 : Steps p.tables e below (s₁.setTop (entryFrame m #[.ref b, .int (Int32.ofNat o), .ref d, .int (Int32.ofNat q), .int (Int32.ofNat len)] 7)) (Tl.setTop (mkF m 12 #[.val (.ref b), .val (.int (Int32.ofNat (o + i))), .val (.ref d), .val (.int (Int32.ofNat (q + i))), .val (.int (Int32.ofNat len)), .val (.int (Int32.ofNat i)), z] [.int (Int32.ofNat (o + i)), .ref b])) := cl.trans (by
        refine XS.iload Xl.here hexec rfl (hb hbytes d3) rfl ?_
        refine XS.iload Xl.here hexec rfl (hb hbytes d5) rfl ?_
        refine XS.icmpNo Xl.here hexec rfl (hb hbytes d7) rfl (ii_ge_f (lt32 (by omega) (by omega))) ?_
        refine XS.aloadN Xl.here hexec rfl (hb hbytes d10) rfl rfl ?_
        refine XS.iloadN Xl.here hexec rfl (hb hbytes d11) rfl ?_
        exact Steps.refl _)
      have c4 : Steps p.tables e below (s₁.setTop (entryFrame m #[.ref b, .int (Int32.ofNat o), .ref d, .int (Int32.ofNat q), .int (Int32.ofNat len)] 7)) (Tl.setTop (mkF m 13 #[.val (.ref b), .val (.int (Int32.ofNat (o + i))), .val (.ref d), .val (.int (Int32.ofNat (q + i))), .val (.int (Int32.ofNat len)), .val (.int (Int32.ofNat i)), z] [.int (cv A (o + i))])) := c3.trans (by
        refine Xl.aget hexec hAl rfl (hA.get (i := o + i) (by omega)) rfl rfl (hb hbytes d12) ?_
        exact Steps.refl _)
      have c5 : Steps p.tables e below (s₁.setTop (entryFrame m #[.ref b, .int (Int32.ofNat o), .ref d, .int (Int32.ofNat q), .int (Int32.ofNat len)] 7)) (Tl.setTop (mkF m 15 #[.val (.ref b), .val (.int (Int32.ofNat (o + i))), .val (.ref d), .val (.int (Int32.ofNat (q + i))), .val (.int (Int32.ofNat len)), .val (.int (Int32.ofNat i)), .val (.int (cv A (o + i)))] [])) := c4.trans (by
        refine XS.istoreS Xl.here hexec rfl (hb hbytes d13) rfl rfl hz ?_
        exact Steps.refl _)
      have c6 : Steps p.tables e below (s₁.setTop (entryFrame m #[.ref b, .int (Int32.ofNat o), .ref d, .int (Int32.ofNat q), .int (Int32.ofNat len)] 7)) (Tl.setTop (mkF m 31 #[.val (.ref b), .val (.int (Int32.ofNat (o + i))), .val (.ref d), .val (.int (Int32.ofNat (q + i))), .val (.int (Int32.ofNat len)), .val (.int (Int32.ofNat i)), .val (.int (cv A (o + i)))] [.int (lo8 (cv A (o + i))), .int (Int32.ofNat (q + i)), .ref d])) := c5.trans (by
        refine XS.iload Xl.here hexec rfl (hb hbytes d15) rfl ?_
        refine sipushV Xl.here hexec rfl 255 (hb hbytes d17) (by decide) ?_
        refine XS.icmpYes Xl.here hexec rfl (pc0 := 20) rfl (hb hbytes d20) rfl (ii_le_t (hp i (by omega))) (by decide) rfl ?_
        refine XS.aloadN Xl.here hexec rfl (hb hbytes d26) rfl rfl ?_
        refine XS.iloadN Xl.here hexec rfl (hb hbytes d27) rfl ?_
        refine XS.iload Xl.here hexec rfl (hb hbytes d28) rfl ?_
        refine i2b Xl.here hexec rfl (hb hbytes d30) rfl ?_
        exact Steps.refl _)
      obtain ⟨T7, X7, p7, st7⟩ := Xl.aput hexec hBk rfl hlt rfl (fits_lo8 (cv A (o + i))) (g := (mkF m 31 #[.val (.ref b), .val (.int (Int32.ofNat (o + i))), .val (.ref d), .val (.int (Int32.ofNat (q + i))), .val (.int (Int32.ofNat len)), .val (.int (Int32.ofNat i)), .val (.int (cv A (o + i)))] [.int (lo8 (cv A (o + i))), .int (Int32.ofNat (q + i)), .ref d])) rfl (rest := []) rfl (hb hbytes d31)
      have c8 : Steps p.tables e below (s₁.setTop (entryFrame m #[.ref b, .int (Int32.ofNat o), .ref d, .int (Int32.ofNat q), .int (Int32.ofNat len)] 7)) (T7.setTop (mkF m 32 #[.val (.ref b), .val (.int (Int32.ofNat (o + i))), .val (.ref d), .val (.int (Int32.ofNat (q + i))), .val (.int (Int32.ofNat len)), .val (.int (Int32.ofNat i)), .val (.int (cv A (o + i)))] [])) := c6.trans (st7 _ (Steps.refl _))
      have c9 : Steps p.tables e below (s₁.setTop (entryFrame m #[.ref b, .int (Int32.ofNat o), .ref d, .int (Int32.ofNat q), .int (Int32.ofNat len)] 7)) (T7.setTop (mkF m 3 #[.val (.ref b), .val (.int (Int32.ofNat (o + i) + 1)), .val (.ref d), .val (.int (Int32.ofNat (q + i) + 1)), .val (.int (Int32.ofNat len)), .val (.int (Int32.ofNat i + 1)), .val (.int (cv A (o + i)))] [])) := c8.trans (by
        refine iincV X7.here hexec rfl 1 (hb hbytes d32) (by decide) rfl rfl ?_
        refine iincV X7.here hexec rfl 1 (hb hbytes d35) (by decide) rfl rfl ?_
        refine iincV X7.here hexec rfl 1 (hb hbytes d38) (by decide) rfl rfl ?_
        refine XS.goto X7.here hexec rfl (pc0 := 41) rfl (hb hbytes d41) (by decide) rfl ?_
        exact Steps.refl _)
      have c10 : Steps p.tables e below (s₁.setTop (entryFrame m #[.ref b, .int (Int32.ofNat o), .ref d, .int (Int32.ofNat q), .int (Int32.ofNat len)] 7)) (T7.setTop (mkF m 3 #[.val (.ref b), .val (.int (Int32.ofNat (o + (i + 1)))), .val (.ref d), .val (.int (Int32.ofNat (q + (i + 1)))), .val (.int (Int32.ofNat len)), .val (.int (Int32.ofNat (i + 1))), .val (.int (cv A (o + i)))] [])) := by
        have := c9
        rw [succ32, succ32, succ32] at this
        exact this
      exact ih (i + 1) (by omega) _ (Or.inr ⟨_, rfl, rfl⟩) T7 _ (by rw [copyLocs_step, ← List.append_assoc]; exact X7) (pl.trans p7) (fl.step (by omega) hlt (by simp)) c10
  obtain ⟨T9, B9, z9, X9, p9, f9, g9⟩ := loop len 0 (by omega) .unset (Or.inl rfl) s₁ B (by simpa [copyLocs] using X0) ⟨hB0.1, fun _ _ => rfl, rfl⟩ (Laid.zero _ _ _) c2
  have c11 : Steps p.tables e below (s₁.setTop (entryFrame m #[.ref b, .int (Int32.ofNat o), .ref d, .int (Int32.ofNat q), .int (Int32.ofNat len)] 7)) (T9.setTop (mkF m 46 #[.val (.ref b), .val (.int (Int32.ofNat (o + len))), .val (.ref d), .val (.int (Int32.ofNat (q + len))), .val (.int (Int32.ofNat len)), .val (.int (Int32.ofNat len)), z9] [.int (Int32.ofNat len)])) := g9.trans (by
    refine XS.iload X9.here hexec rfl (hb hbytes d3) rfl ?_
    refine XS.iload X9.here hexec rfl (hb hbytes d5) rfl ?_
    refine XS.icmpYes X9.here hexec rfl (pc0 := 7) rfl (hb hbytes d7) rfl (ii_ge_t (nlt32 (by omega) (Nat.le_refl _))) (by decide) rfl ?_
    refine XS.iload X9.here hexec rfl (hb hbytes d44) rfl ?_
    exact Steps.refl _)
  exact ⟨T9, some (.int (Int32.ofNat len)), _, _, _, X9, by simp, rfl, rfl, (fun h => by cases h), ⟨rfl, B9, p9.from hh0, f9⟩, fun fs hl => c11.trans (X9.ireturnOut hexec hret rfl (Or.inl rfl) (hb hbytes d46) hl)⟩
end Cmp5
namespace Cmp3
def yN : MethodName := ⟨"java/lang/StringUTF16", "compress", "([CII)[B"⟩
abbrev yB : ByteArray := jdk_52_method_16_code
theorem d0 : decode yB 0 = .ok (.iload_n 2, 1) := by decide +kernel
theorem d1 : decode yB 1 = .ok (.newarray .byte, 2) := by decide +kernel
theorem d3 : decode yB 3 = .ok (.astore_n 3, 1) := by decide +kernel
theorem d4 : decode yB 4 = .ok (.aload_n 0, 1) := by decide +kernel
theorem d5 : decode yB 5 = .ok (.iload_n 1, 1) := by decide +kernel
theorem d6 : decode yB 6 = .ok (.aload_n 3, 1) := by decide +kernel
theorem d7 : decode yB 7 = .ok (.iconst 0, 1) := by decide +kernel
theorem d8 : decode yB 8 = .ok (.iload_n 2, 1) := by decide +kernel
theorem d9 : decode yB 9 = .ok (.invokestatic 115, 3) := by decide +kernel
theorem d12 : decode yB 12 = .ok (.istore 4, 2) := by decide +kernel
theorem d14 : decode yB 14 = .ok (.iload 4, 2) := by decide +kernel
theorem d16 : decode yB 16 = .ok (.iload_n 2, 1) := by decide +kernel
theorem d17 : decode yB 17 = .ok (.if_icmp (.eq) 40, 3) := by decide +kernel
theorem d57 : decode yB 57 = .ok (.aload_n 3, 1) := by decide +kernel
theorem d58 : decode yB 58 = .ok (.areturn, 1) := by decide +kernel
def site : List Cond := [.arrayClass .byte, Cmp5.tab] ++ staticW U16 115 Cmp5.yN
def tab : Cond := tabOf yN yB 6 (some (.array .byte)) site
def P (b : Addr) (A : Cell) (o len : Nat) (args : Array Value) (s : State) : Prop := args = #[.ref b, .int (Int32.ofNat o), .int (Int32.ofNat len)] ∧ Ch b A s ∧ o + len ≤ A.slots.size ∧ len ≤ 536870912 ∧ ∀ i, i < len → ¬ 255 < cv A (o + i)
def E (b : Addr) (A : Cell) (o len : Nat) (r : Option Value) (s u : State) : Prop := NewArr .byte "[B" len (fun j => .int (lo8 (cv A (o + j)))) r s u ∧ u.heap.size = s.heap.size + 1
/-- no char of the range above 255: a new byte[] of their low bytes -/
theorem law (l : Launch) (b : Addr) (A : Cell) (o len : Nat) : Law l yN 3 3 1 18 yB 6 (some (.array .byte)) site (P b A o len) (E b A o len) [] 1 len := by
  refine Law.of_walk (plainFor_of_name (by decide +kernel)) (by decide +kernel) (by decide +kernel) (by decide) (fun _ _ h => by rw [h.1]; rfl) (fun _ U U' hal hh h => ⟨h.1, h.2.1.mv hal hh, h.2.2⟩) (fun r U U' V V' h1 hal h2 h => ⟨NewArr.mv r U U' V V' h1 hal h2 h.1, by rw [h1, h2]; exact h.2⟩) ?_
  intro p e s m args below meth c s₁ X0 hexec hbytes hml hret hlk hnm hown hh0 W hP
  obtain ⟨rfl, hA, l1, l2, hp⟩ := hP
  have a31 := hA.1.2.2.2
  have c1 : Steps p.tables e below (s₁.setTop (entryFrame m #[.ref b, .int (Int32.ofNat o), .int (Int32.ofNat len)] 6)) (s₁.setTop (mkF m 0 #[.val (.ref b), .val (.int (Int32.ofNat o)), .val (.int (Int32.ofNat len)), .unset, .unset, .unset] [])) := entry rfl
  have c2 : Steps p.tables e below (s₁.setTop (entryFrame m #[.ref b, .int (Int32.ofNat o), .int (Int32.ofNat len)] 6)) (s₁.setTop (mkF m 1 #[.val (.ref b), .val (.int (Int32.ofNat o)), .val (.int (Int32.ofNat len)), .unset, .unset, .unset] [.int (Int32.ofNat len)])) := c1.trans (by
    refine XS.iloadN X0.here hexec rfl (hb hbytes d0) rfl ?_
    exact Steps.refl _)
  obtain ⟨T3, B3, X3, ba3, bs3, bv3, bh3, bf3, st3⟩ := X0.anew hexec (atype := .byte) (wk W (.arrayClass .byte)) rfl (by show len * 1 ≤ _; omega) (by omega) (g := (mkF m 1 #[.val (.ref b), .val (.int (Int32.ofNat o)), .val (.int (Int32.ofNat len)), .unset, .unset, .unset] [.int (Int32.ofNat len)])) rfl (hb hbytes d1) (rest := []) rfl (Nat.le_refl _) (by show 0 + len ≤ len; omega)
  rw [hh0] at ba3 st3
  have kp3 : XT.Kept s T3 := (XT.Kept.of_eq hh0).push bh3
  have hA3 := hA.keep X3.warmed.alike (kp3 _ _ hA.1.1)
  have hne : b ≠ s.heap.size := hA.1.ne
  have c4 : Steps p.tables e below (s₁.setTop (entryFrame m #[.ref b, .int (Int32.ofNat o), .int (Int32.ofNat len)] 6)) (T3.setTop (mkF m 3 #[.val (.ref b), .val (.int (Int32.ofNat o)), .val (.int (Int32.ofNat len)), .unset, .unset, .unset] [.ref s.heap.size])) := c2.trans (st3 _ (Steps.refl _))
  have c5 : Steps p.tables e below (s₁.setTop (entryFrame m #[.ref b, .int (Int32.ofNat o), .int (Int32.ofNat len)] 6)) (T3.setTop (mkF m 9 #[.val (.ref b), .val (.int (Int32.ofNat o)), .val (.int (Int32.ofNat len)), .val (.ref s.heap.size), .unset, .unset] [.int (Int32.ofNat len), .int 0, .ref s.heap.size, .int (Int32.ofNat o), .ref b])) := c4.trans (by
    refine XS.astoreN X3.here hexec rfl (hb hbytes d3) rfl rfl rfl ?_
    refine XS.aloadN X3.here hexec rfl (hb hbytes d4) rfl rfl ?_
    refine XS.iloadN X3.here hexec rfl (hb hbytes d5) rfl ?_
    refine XS.aloadN X3.here hexec rfl (hb hbytes d6) rfl rfl ?_
    refine iconstV X3.here hexec rfl 0 (hb hbytes d7) (by decide) ?_
    refine XS.iloadN X3.here hexec rfl (hb hbytes d8) rfl ?_
    exact Steps.refl _)
  obtain ⟨v6, T6, X6, E6, g6⟩ := X3.callS hexec (Cmp5.law l b A s.heap.size B3 o 0 len) hown (wks W (staticW U16 115 Cmp5.yN)) (wk W Cmp5.tab) (W := 0) (Nat.le_of_ble_eq_true rfl) (Nat.le_of_ble_eq_true rfl) (Nat.le_refl _) (by show 0 + len + 0 ≤ len; omega) (g := (mkF m 9 #[.val (.ref b), .val (.int (Int32.ofNat o)), .val (.int (Int32.ofNat len)), .val (.ref s.heap.size), .unset, .unset] [.int (Int32.ofNat len), .int (Int32.ofNat 0), .ref s.heap.size, .int (Int32.ofNat o), .ref b])) rfl (by rw [hml]; rfl) c5 (argsL := [.ref b, .int (Int32.ofNat o), .ref s.heap.size, .int (Int32.ofNat 0), .int (Int32.ofNat len)]) (rest := []) rfl rfl (by show 2 * 0 + 0 ≤ _; decide) (hb hbytes d9) (⟨rfl, hA3, ba3, hne, l1, by rw [bs3]; simp, hp⟩)
  obtain ⟨rfl, B6, p6, f6⟩ := E6
  have c7 : Steps p.tables e below (s₁.setTop (entryFrame m #[.ref b, .int (Int32.ofNat o), .int (Int32.ofNat len)] 6)) (T6.setTop (mkF m 12 #[.val (.ref b), .val (.int (Int32.ofNat o)), .val (.int (Int32.ofNat len)), .val (.ref s.heap.size), .unset, .unset] [.int (Int32.ofNat len)])) := g6
  have c8 : Steps p.tables e below (s₁.setTop (entryFrame m #[.ref b, .int (Int32.ofNat o), .int (Int32.ofNat len)] 6)) (T6.setTop (mkF m 58 #[.val (.ref b), .val (.int (Int32.ofNat o)), .val (.int (Int32.ofNat len)), .val (.ref s.heap.size), .val (.int (Int32.ofNat len)), .unset] [.ref s.heap.size])) := c7.trans (by
    refine XS.istore X6.here hexec rfl (hb hbytes d12) rfl rfl ?_
    refine XS.iload X6.here hexec rfl (hb hbytes d14) rfl ?_
    refine XS.iloadN X6.here hexec rfl (hb hbytes d16) rfl ?_
    refine XS.icmpYes X6.here hexec rfl (pc0 := 17) rfl (hb hbytes d17) rfl (ii_eq_t rfl) (by decide) rfl ?_
    refine XS.aloadN X6.here hexec rfl (hb hbytes d57) rfl rfl ?_
    exact Steps.refl _)
  have X8 := X6.wide (L' := []) (cells' := 1) (slots' := len) (fun x hx hlt => by
    simp only [List.nil_append, copyLocs, List.mem_map, List.mem_range] at hx
    obtain ⟨i, -, rfl⟩ := hx
    exact absurd hlt (Nat.lt_irrefl _)) (Nat.le_refl _) (by omega)
  exact ⟨T6, some (.ref s.heap.size), _, _, _, X8, rfl, rfl, rfl, (fun h => by cases h), ⟨⟨rfl, B6, ba3.like (X3.warmed.alike.symm.trans X6.warmed.alike) p6.1 f6.1 f6.2.1 f6.2.2.1, f6.2.1.trans bv3, by rw [X6.warmed.alike.findClass, f6.1]; exact bf3, by rw [f6.2.2.1, bs3]; simp, fun j hj => by rw [f6.2.2.2 j, if_pos (by omega)]; rfl, kp3.put p6 (Nat.le_refl _)⟩, by rw [p6.2.2, bh3, hh0]; simp⟩, fun fs hl => c8.trans (X8.areturnOut hexec rfl hret rfl (hb hbytes d58) hl)⟩
end Cmp3
namespace CodL
def yN : MethodName := ⟨"java/lang/StringUTF16", "coderFromArrayLen", "([BI)B"⟩
abbrev yB : ByteArray := jdk_52_method_15_code
theorem d0 : decode yB 0 = .ok (.iload_n 1, 1) := by decide +kernel
theorem d1 : decode yB 1 = .ok (.aload_n 0, 1) := by decide +kernel
theorem d2 : decode yB 2 = .ok (.arraylength, 1) := by decide +kernel
theorem d3 : decode yB 3 = .ok (.isub, 1) := by decide +kernel
theorem d4 : decode yB 4 = .ok (.bipush 31, 2) := by decide +kernel
theorem d6 : decode yB 6 = .ok (.iushr, 1) := by decide +kernel
theorem d7 : decode yB 7 = .ok (.i2b, 1) := by decide +kernel
theorem d8 : decode yB 8 = .ok (.ireturn, 1) := by decide +kernel
def site : List Cond := []
def tab : Cond := tabOf yN yB 2 (some .byte) site
def P (d : Addr) (B : Cell) (args : Array Value) (s : State) : Prop := args = #[.ref d, .int (Int32.ofNat B.slots.size)] ∧ Arr .byte d B s
def E (r : Option Value) (s u : State) : Prop := XT.PureE (some (.int 0)) r s u
/-- an array as long as the number of chars: LATIN1 -/
theorem law (l : Launch) (d : Addr) (B : Cell) : Law l yN 2 2 0 0 yB 2 (some .byte) site (P d B) E [] 0 0 := by
  refine Law.of_walk (plainFor_of_name (by decide +kernel)) (by decide +kernel) (by decide +kernel) (by decide) (fun _ _ h => by rw [h.1]; rfl) (fun _ U U' hal hh h => ⟨h.1, h.2.mv hal hh⟩) (fun r U U' V V' h1 hal h2 h => XT.PureE.mv r U U' V V' h1 hal h2 h) ?_
  intro p e s m args below meth c s₁ X0 hexec hbytes hml hret hlk hnm hown hh0 W hP
  obtain ⟨rfl, hB⟩ := hP
  have hB0 := hB.mv X0.warmed.alike hh0
  have c1 : Steps p.tables e below (s₁.setTop (entryFrame m #[.ref d, .int (Int32.ofNat B.slots.size)] 2)) (s₁.setTop (mkF m 0 #[.val (.ref d), .val (.int (Int32.ofNat B.slots.size))] [])) := entry rfl
  have c2 : Steps p.tables e below (s₁.setTop (entryFrame m #[.ref d, .int (Int32.ofNat B.slots.size)] 2)) (s₁.setTop (mkF m 2 #[.val (.ref d), .val (.int (Int32.ofNat B.slots.size))] [.ref d, .int (Int32.ofNat B.slots.size)])) := c1.trans (by
    refine XS.iloadN X0.here hexec rfl (hb hbytes d0) rfl ?_
    refine XS.aloadN X0.here hexec rfl (hb hbytes d1) rfl rfl ?_
    exact Steps.refl _)
  have c3 : Steps p.tables e below (s₁.setTop (entryFrame m #[.ref d, .int (Int32.ofNat B.slots.size)] 2)) (s₁.setTop (mkF m 8 #[.val (.ref d), .val (.int (Int32.ofNat B.slots.size))] [.int (lo8 (ushr (Int32.ofNat B.slots.size - Int32.ofNat B.slots.size) 31))])) := c2.trans (by
    refine X0.alen hexec hB0 rfl rfl (hb hbytes d2) ?_
    refine XS.isub X0.here hexec rfl (hb hbytes d3) rfl ?_
    refine bipushV X0.here hexec rfl 31 (hb hbytes d4) (by decide) ?_
    refine iushr X0.here hexec rfl (hb hbytes d6) rfl ?_
    refine i2b X0.here hexec rfl (hb hbytes d7) rfl ?_
    exact Steps.refl _)
  have e0 : lo8 (ushr (Int32.ofNat B.slots.size - Int32.ofNat B.slots.size) 31) = 0 := by rw [Int32.sub_self]; decide
  rw [e0] at c3
  exact ⟨s₁, some (.int 0), _, _, _, X0, rfl, rfl, rfl, (fun h => by cases h), ⟨rfl, hh0⟩, fun fs hl => c3.trans (X0.ireturnOut hexec hret rfl (Or.inr (Or.inr (Or.inl rfl))) (hb hbytes d8) hl)⟩
end CodL
/-- the String at a is Latin-1 over a new byte[] (the heap's one new cell): the low bytes of the len chars of A from o on; every cell but a is kept -/
def Got (a : Addr) (D : Cell) (fV fC : Field) (A : Cell) (o len : Nat) (r : Option Value) (s u : State) : Prop := r = none ∧ ∃ D' V : Cell, Blank "java/lang/String" a D' u ∧ Same D D' [fV.slot, fC.slot] ∧ D'.slots[fV.slot]? = some (.ref s.heap.size) ∧ D'.slots[fC.slot]? = some (.int 0) ∧ Arr .byte s.heap.size V u ∧ V.vm = .none ∧ u.vm.findClass "[B" = some V.cls ∧ V.slots.size = len ∧ (∀ j, j < len → V.slots[j]? = some (.int (lo8 (cv A (o + j))))) ∧ (∀ (y : Addr) (c : Cell), y ≠ a → s.heap[y]? = some c → u.heap[y]? = some c) ∧ u.heap.size = s.heap.size + 1
theorem Got.mv {a : Addr} {D A : Cell} {fV fC : Field} {o len : Nat} : ∀ r (U U' V V' : State), U'.heap = U.heap → V.vm.Alike V'.vm → V'.heap = V.heap → Got a D fV fC A o len r U V → Got a D fV fC A o len r U' V' :=
  fun r U U' V V' h1 hal h2 ⟨e0, D', X, a1, a2, a3, a4, a5, a6, a7, a8, a9, a10, a11⟩ => ⟨e0, D', X, a1.mv hal h2, a2, by rw [h1]; exact a3, a4, by rw [h1]; exact a5.mv hal h2, a6, by rw [hal.findClass]; exact a7, a8, a9, by rw [h1, h2]; exact a10, by rw [h1, h2]; exact a11⟩
namespace New4
def yN : MethodName := ⟨"java/lang/String", "<init>", "([CIILjava/lang/Void;)V"⟩
abbrev yB : ByteArray := jdk_42_method_149_code
theorem d0 : decode yB 0 = .ok (.aload_n 0, 1) := by decide +kernel
theorem d1 : decode yB 1 = .ok (.invokespecial 1, 3) := by decide +kernel
theorem d4 : decode yB 4 = .ok (.iload_n 3, 1) := by decide +kernel
theorem d5 : decode yB 5 = .ok (.ifCond (.ne) 22, 3) := by decide +kernel
theorem d27 : decode yB 27 = .ok (.getstatic 38, 3) := by decide +kernel
theorem d30 : decode yB 30 = .ok (.ifCond (.eq) 28, 3) := by decide +kernel
theorem d33 : decode yB 33 = .ok (.aload_n 1, 1) := by decide +kernel
theorem d34 : decode yB 34 = .ok (.iload_n 2, 1) := by decide +kernel
theorem d35 : decode yB 35 = .ok (.iload_n 3, 1) := by decide +kernel
theorem d36 : decode yB 36 = .ok (.invokestatic 177, 3) := by decide +kernel
theorem d39 : decode yB 39 = .ok (.astore 5, 2) := by decide +kernel
theorem d41 : decode yB 41 = .ok (.aload_n 0, 1) := by decide +kernel
theorem d42 : decode yB 42 = .ok (.aload 5, 2) := by decide +kernel
theorem d44 : decode yB 44 = .ok (.iload_n 3, 1) := by decide +kernel
theorem d45 : decode yB 45 = .ok (.invokestatic 47, 3) := by decide +kernel
theorem d48 : decode yB 48 = .ok (.putfield 15, 3) := by decide +kernel
theorem d51 : decode yB 51 = .ok (.aload_n 0, 1) := by decide +kernel
theorem d52 : decode yB 52 = .ok (.aload 5, 2) := by decide +kernel
theorem d54 : decode yB 54 = .ok (.putfield 9, 3) := by decide +kernel
theorem d57 : decode yB 57 = .ok (.return_, 1) := by decide +kernel
def site : List Cond := [.fieldLink "java/lang/String" 38 "java/lang/String" "COMPACT_STRINGS" "Z", Cmp3.tab, CodL.tab, .laysFinal "java/lang/String" "java/lang/String" "value" "[B", .fieldLink "java/lang/String" 9 "java/lang/String" "value" "[B", .laysFinal "java/lang/String" "java/lang/String" "coder" "B", .fieldLink "java/lang/String" 15 "java/lang/String" "coder" "B"] ++ objW "java/lang/String" 1 ++ staticW "java/lang/String" 177 Cmp3.yN ++ staticW "java/lang/String" 47 CodL.yN
def tab : Cond := tabOf yN yB 6 none site
def P (a : Addr) (D : Cell) (fV fC : Field) (b : Addr) (A : Cell) (z : Int32) (o len : Nat) (args : Array Value) (s : State) : Prop := args = #[.ref a, .ref b, .int (Int32.ofNat o), .int (Int32.ofNat len), .null] ∧ Blank "java/lang/String" a D s ∧ Found "java/lang/String" "value" "[B" fV s ∧ Found "java/lang/String" "coder" "B" fC s ∧ Ch b A s ∧ StaticIs s "java/lang/String" "COMPACT_STRINGS" "Z" (.int z) ∧ ¬ z = 0 ∧ 0 < len ∧ o + len ≤ A.slots.size ∧ len ≤ 536870912 ∧ ∀ i, i < len → ¬ 255 < cv A (o + i)
def E (a : Addr) (D : Cell) (fV fC : Field) (A : Cell) (o len : Nat) (r : Option Value) (s u : State) : Prop := Got a D fV fC A o len r s u
/-- len > 0, no char of the range above 255: a Latin-1 String of their low bytes -/
theorem law (l : Launch) (a : Addr) (D : Cell) (fV fC : Field) (b : Addr) (A : Cell) (z : Int32) (o len : Nat) : Law l yN 5 4 2 35 yB 6 none site (P a D fV fC b A z o len) (E a D fV fC A o len) [⟨a, fC.slot⟩, ⟨a, fV.slot⟩] 1 len := by
  refine Law.of_walk (plainFor_of_name (by decide +kernel)) (by decide +kernel) (by decide +kernel) (by decide) (fun _ _ h => by rw [h.1]; rfl) (fun _ U U' hal hh h => ⟨h.1, h.2.1.mv hal hh, h.2.2.1.al hal, h.2.2.2.1.al hal, h.2.2.2.2.1.mv hal hh, h.2.2.2.2.2.1.there hal hh, h.2.2.2.2.2.2⟩) (fun r U U' V V' h1 hal h2 h => Got.mv r U U' V V' h1 hal h2 h) ?_
  intro p e s m args below meth c s₁ X0 hexec hbytes hml hret hlk hnm hown hh0 W hP
  obtain ⟨rfl, hB, f1, f2, hA, s1, hz, l0, l1, l2, hp⟩ := hP
  have a31 := hA.1.2.2.2
  have c1 : Steps p.tables e below (s₁.setTop (entryFrame m #[.ref a, .ref b, .int (Int32.ofNat o), .int (Int32.ofNat len), .null] 6)) (s₁.setTop (mkF m 0 #[.val (.ref a), .val (.ref b), .val (.int (Int32.ofNat o)), .val (.int (Int32.ofNat len)), .val .null, .unset] [])) := entry rfl
  have c2 : Steps p.tables e below (s₁.setTop (entryFrame m #[.ref a, .ref b, .int (Int32.ofNat o), .int (Int32.ofNat len), .null] 6)) (s₁.setTop (mkF m 1 #[.val (.ref a), .val (.ref b), .val (.int (Int32.ofNat o)), .val (.int (Int32.ofNat len)), .val .null, .unset] [.ref a])) := c1.trans (by
    refine XS.aloadN X0.here hexec rfl (hb hbytes d0) rfl rfl ?_
    exact Steps.refl _)
  obtain ⟨T3, X3, q3, st3⟩ := X0.oinit hexec hown (wks W (objW "java/lang/String" 1)) (g := (mkF m 1 #[.val (.ref a), .val (.ref b), .val (.int (Int32.ofNat o)), .val (.int (Int32.ofNat len)), .val .null, .unset] [.ref a])) rfl (by rw [hml]; rfl) (rest := []) rfl (hb hbytes d1) (W := 0) (by show 2 * 0 + 0 ≤ _; decide) (Nat.le_of_ble_eq_true rfl) (Nat.le_of_ble_eq_true rfl)
  have hh3 := q3.trans hh0
  have c4 : Steps p.tables e below (s₁.setTop (entryFrame m #[.ref a, .ref b, .int (Int32.ofNat o), .int (Int32.ofNat len), .null] 6)) (T3.setTop (mkF m 27 #[.val (.ref a), .val (.ref b), .val (.int (Int32.ofNat o)), .val (.int (Int32.ofNat len)), .val .null, .unset] [])) := (c2.trans (st3 _ (Steps.refl _))).trans (by
    refine XS.iloadN X3.here hexec rfl (hb hbytes d4) rfl ?_
    refine XS.ifYes X3.here hexec rfl (pc0 := 5) rfl (hb hbytes d5) rfl (i0_ne_t (nz32 (by omega) l0)) (by decide) rfl ?_
    exact Steps.refl _)
  obtain ⟨T5, X5, q5, st5⟩ := X3.sget hexec hown (wk W (.fieldLink "java/lang/String" 38 "java/lang/String" "COMPACT_STRINGS" "Z")) s1 (fun _ _ h => by rw [hh3]; exact h) (g := (mkF m 27 #[.val (.ref a), .val (.ref b), .val (.int (Int32.ofNat o)), .val (.int (Int32.ofNat len)), .val .null, .unset] [])) rfl (hb hbytes d27)
  have hh5 := q5.trans hh3
  have c6 : Steps p.tables e below (s₁.setTop (entryFrame m #[.ref a, .ref b, .int (Int32.ofNat o), .int (Int32.ofNat len), .null] 6)) (T5.setTop (mkF m 30 #[.val (.ref a), .val (.ref b), .val (.int (Int32.ofNat o)), .val (.int (Int32.ofNat len)), .val .null, .unset] [.int z])) := c4.trans (st5 _ (Steps.refl _))
  have c7 : Steps p.tables e below (s₁.setTop (entryFrame m #[.ref a, .ref b, .int (Int32.ofNat o), .int (Int32.ofNat len), .null] 6)) (T5.setTop (mkF m 36 #[.val (.ref a), .val (.ref b), .val (.int (Int32.ofNat o)), .val (.int (Int32.ofNat len)), .val .null, .unset] [.int (Int32.ofNat len), .int (Int32.ofNat o), .ref b])) := c6.trans (by
    refine XS.ifNo X5.here hexec rfl (hb hbytes d30) rfl (i0_eq_f hz) ?_
    refine XS.aloadN X5.here hexec rfl (hb hbytes d33) rfl rfl ?_
    refine XS.iloadN X5.here hexec rfl (hb hbytes d34) rfl ?_
    refine XS.iloadN X5.here hexec rfl (hb hbytes d35) rfl ?_
    exact Steps.refl _)
  obtain ⟨v8, T8, X8, E8, g8⟩ := X5.callS hexec (Cmp3.law l b A o len) hown (wks W (staticW "java/lang/String" 177 Cmp3.yN)) (wk W Cmp3.tab) (W := 0) (Nat.le_of_ble_eq_true rfl) (Nat.le_of_ble_eq_true rfl) (Nat.le_refl _) (by show 0 + len ≤ len; omega) (g := (mkF m 36 #[.val (.ref a), .val (.ref b), .val (.int (Int32.ofNat o)), .val (.int (Int32.ofNat len)), .val .null, .unset] [.int (Int32.ofNat len), .int (Int32.ofNat o), .ref b])) rfl (by rw [hml]; rfl) c7 (argsL := [.ref b, .int (Int32.ofNat o), .int (Int32.ofNat len)]) (rest := []) rfl rfl (by show 2 * 0 + 0 ≤ _; decide) (hb hbytes d36) (⟨rfl, hA.mv X5.warmed.alike hh5, l1, l2, hp⟩)
  obtain ⟨e8, z8⟩ := E8
  obtain ⟨rfl, N, n1, n2, n3, n4, n5, n6⟩ := NewArr.mv _ T5 s _ _ hh5.symm (Vm.Alike.refl _) rfl e8
  rw [hh5] at z8
  have hB1 := hB.keep X8.warmed.alike (n6 _ _ hB.1)
  have hne : s.heap.size ≠ a := (Nat.ne_of_lt (Array.getElem?_eq_some_iff.mp hB.1).1).symm
  have c9 : Steps p.tables e below (s₁.setTop (entryFrame m #[.ref a, .ref b, .int (Int32.ofNat o), .int (Int32.ofNat len), .null] 6)) (T8.setTop (mkF m 39 #[.val (.ref a), .val (.ref b), .val (.int (Int32.ofNat o)), .val (.int (Int32.ofNat len)), .val .null, .unset] [.ref s.heap.size])) := g8
  have c10 : Steps p.tables e below (s₁.setTop (entryFrame m #[.ref a, .ref b, .int (Int32.ofNat o), .int (Int32.ofNat len), .null] 6)) (T8.setTop (mkF m 45 #[.val (.ref a), .val (.ref b), .val (.int (Int32.ofNat o)), .val (.int (Int32.ofNat len)), .val .null, .val (.ref s.heap.size)] [.int (Int32.ofNat N.slots.size), .ref s.heap.size, .ref a])) := by
    have hc : Steps p.tables e below (s₁.setTop (entryFrame m #[.ref a, .ref b, .int (Int32.ofNat o), .int (Int32.ofNat len), .null] 6)) (T8.setTop (mkF m 45 #[.val (.ref a), .val (.ref b), .val (.int (Int32.ofNat o)), .val (.int (Int32.ofNat len)), .val .null, .val (.ref s.heap.size)] [.int (Int32.ofNat len), .ref s.heap.size, .ref a])) := c9.trans (by
      refine XS.astore X8.here hexec rfl (hb hbytes d39) rfl rfl rfl ?_
      refine XS.aloadN X8.here hexec rfl (hb hbytes d41) rfl rfl ?_
      refine XS.aload X8.here hexec rfl (hb hbytes d42) rfl rfl ?_
      refine XS.iloadN X8.here hexec rfl (hb hbytes d44) rfl ?_
      exact Steps.refl _)
    rw [n4]; exact hc
  obtain ⟨v11, T11, X11, E11, g11⟩ := X8.callS hexec (CodL.law l s.heap.size N) hown (wks W (staticW "java/lang/String" 47 CodL.yN)) (wk W CodL.tab) (W := 1) (Nat.le_of_ble_eq_true rfl) (Nat.le_of_ble_eq_true rfl) (Nat.le_refl _) (by show 0 + len + 0 ≤ len; omega) (g := (mkF m 45 #[.val (.ref a), .val (.ref b), .val (.int (Int32.ofNat o)), .val (.int (Int32.ofNat len)), .val .null, .val (.ref s.heap.size)] [.int (Int32.ofNat N.slots.size), .ref s.heap.size, .ref a])) rfl (by rw [hml]; rfl) c10 (argsL := [.ref s.heap.size, .int (Int32.ofNat N.slots.size)]) (rest := [.ref a]) rfl rfl (by show 2 * 0 + (1 + 0) ≤ _; decide) (hb hbytes d45) (⟨rfl, n1⟩)
  obtain ⟨rfl, q11⟩ := E11
  have hB11 := hB1.mv (X8.warmed.alike.symm.trans X11.warmed.alike) q11
  have c12 : Steps p.tables e below (s₁.setTop (entryFrame m #[.ref a, .ref b, .int (Int32.ofNat o), .int (Int32.ofNat len), .null] 6)) (T11.setTop (mkF m 48 #[.val (.ref a), .val (.ref b), .val (.int (Int32.ofNat o)), .val (.int (Int32.ofNat len)), .val .null, .val (.ref s.heap.size)] [.int 0, .ref a])) := g11
  obtain ⟨T13, X13, p13, bl13, sl13, st13⟩ := X11.finit hexec hown (wk W (.fieldLink "java/lang/String" 15 "java/lang/String" "coder" "B")) (Or.inr ⟨_, (wk W (.laysFinal "java/lang/String" "java/lang/String" "coder" "B"))⟩) (Or.inl ⟨rfl, hnm⟩) f2 (Or.inl rfl) hB11 (t := .byte) (by decide +kernel) rfl (g := (mkF m 48 #[.val (.ref a), .val (.ref b), .val (.int (Int32.ofNat o)), .val (.int (Int32.ofNat len)), .val .null, .val (.ref s.heap.size)] [.int 0, .ref a])) rfl (rest := []) rfl (hb hbytes d48)
  have c14 : Steps p.tables e below (s₁.setTop (entryFrame m #[.ref a, .ref b, .int (Int32.ofNat o), .int (Int32.ofNat len), .null] 6)) (T13.setTop (mkF m 54 #[.val (.ref a), .val (.ref b), .val (.int (Int32.ofNat o)), .val (.int (Int32.ofNat len)), .val .null, .val (.ref s.heap.size)] [.ref s.heap.size, .ref a])) := (c12.trans (st13 _ (Steps.refl _))).trans (by
    refine XS.aloadN X13.here hexec rfl (hb hbytes d51) rfl rfl ?_
    refine XS.aload X13.here hexec rfl (hb hbytes d52) rfl rfl ?_
    exact Steps.refl _)
  obtain ⟨T15, X15, p15, bl15, sl15, st15⟩ := X13.finit hexec hown (wk W (.fieldLink "java/lang/String" 9 "java/lang/String" "value" "[B")) (Or.inr ⟨_, (wk W (.laysFinal "java/lang/String" "java/lang/String" "value" "[B"))⟩) (Or.inl ⟨rfl, hnm⟩) f1 (Or.inl rfl) bl13 (t := (.array .byte)) (by decide +kernel) rfl (g := (mkF m 54 #[.val (.ref a), .val (.ref b), .val (.int (Int32.ofNat o)), .val (.int (Int32.ofNat len)), .val .null, .val (.ref s.heap.size)] [.ref s.heap.size, .ref a])) rfl (rest := []) rfl (hb hbytes d54)
  have c16 : Steps p.tables e below (s₁.setTop (entryFrame m #[.ref a, .ref b, .int (Int32.ofNat o), .int (Int32.ofNat len), .null] 6)) (T15.setTop (mkF m 57 #[.val (.ref a), .val (.ref b), .val (.int (Int32.ofNat o)), .val (.int (Int32.ofNat len)), .val .null, .val (.ref s.heap.size)] [])) := c14.trans (st15 _ (Steps.refl _))
  have ap := apart (Or.inr ⟨_, (wk W (.laysFinal "java/lang/String" "java/lang/String" "value" "[B"))⟩) (Or.inr ⟨_, (wk W (.laysFinal "java/lang/String" "java/lang/String" "coder" "B"))⟩) f1 f2 (t₁ := .array .byte) (t₂ := .byte) (by decide +kernel) (by decide +kernel) (by decide)
  have al := X8.warmed.alike.symm.trans X15.warmed.alike
  have n7 : T11.heap[s.heap.size]? = some N := by rw [q11]; exact n1.1
  exact ⟨T15, none, _, _, _, X15, by simp, rfl, by omega, (fun _ => rfl), ⟨rfl, _, N, bl15, ((Same.refl D _).set _ (by simp)).set _ (by simp), sl15, (Cell.slots_setSlot_ne _ ap).trans sl13, n1.keep al (p15.other hne (p13.other hne n7)), n2, by rw [al.findClass]; exact n3, n4, n5, fun y c h1 h2 => p15.other h1 (p13.other h1 (by rw [q11]; exact n6 y c h2)), by rw [p15.2.2, p13.2.2, q11]; exact z8⟩, fun fs hl => c16.trans (X15.returnOut hexec hret (hb hbytes d57) hl)⟩
end New4
namespace New1
def yN : MethodName := ⟨"java/lang/String", "<init>", "([C)V"⟩
abbrev yB : ByteArray := jdk_42_method_3_code
theorem d0 : decode yB 0 = .ok (.aload_n 0, 1) := by decide +kernel
theorem d1 : decode yB 1 = .ok (.aload_n 1, 1) := by decide +kernel
theorem d2 : decode yB 2 = .ok (.iconst 0, 1) := by decide +kernel
theorem d3 : decode yB 3 = .ok (.aload_n 1, 1) := by decide +kernel
theorem d4 : decode yB 4 = .ok (.arraylength, 1) := by decide +kernel
theorem d5 : decode yB 5 = .ok (.aconst_null, 1) := by decide +kernel
theorem d6 : decode yB 6 = .ok (.invokespecial 27, 3) := by decide +kernel
theorem d9 : decode yB 9 = .ok (.return_, 1) := by decide +kernel
def site : List Cond := [New4.tab] ++ initW "java/lang/String" 27 New4.yN
def tab : Cond := tabOf yN yB 2 none site
def P (a : Addr) (D : Cell) (fV fC : Field) (b : Addr) (A : Cell) (z : Int32) (args : Array Value) (s : State) : Prop := args = #[.ref a, .ref b] ∧ Blank "java/lang/String" a D s ∧ Found "java/lang/String" "value" "[B" fV s ∧ Found "java/lang/String" "coder" "B" fC s ∧ Ch b A s ∧ StaticIs s "java/lang/String" "COMPACT_STRINGS" "Z" (.int z) ∧ ¬ z = 0 ∧ 0 < A.slots.size ∧ A.slots.size ≤ 536870912 ∧ ∀ i, i < A.slots.size → ¬ 255 < cv A i
def E (a : Addr) (D : Cell) (fV fC : Field) (A : Cell) (r : Option Value) (s u : State) : Prop := Got a D fV fC A 0 A.slots.size r s u
/-- new String(chars), not empty, no char above 255: a Latin-1 String of their low bytes -/
theorem law (l : Launch) (a : Addr) (D : Cell) (fV fC : Field) (b : Addr) (A : Cell) (z : Int32) : Law l yN 2 1 3 52 yB 2 none site (P a D fV fC b A z) (E a D fV fC A) [⟨a, fC.slot⟩, ⟨a, fV.slot⟩] 1 A.slots.size := by
  refine Law.of_walk (plainFor_of_name (by decide +kernel)) (by decide +kernel) (by decide +kernel) (by decide) (fun _ _ h => by rw [h.1]; rfl) (fun _ U U' hal hh h => ⟨h.1, h.2.1.mv hal hh, h.2.2.1.al hal, h.2.2.2.1.al hal, h.2.2.2.2.1.mv hal hh, h.2.2.2.2.2.1.there hal hh, h.2.2.2.2.2.2⟩) (fun r U U' V V' h1 hal h2 h => Got.mv r U U' V V' h1 hal h2 h) ?_
  intro p e s m args below meth c s₁ X0 hexec hbytes hml hret hlk hnm hown hh0 W hP
  obtain ⟨rfl, hB, f1, f2, hA, s1, hz, l0, l2, hp⟩ := hP
  have c1 : Steps p.tables e below (s₁.setTop (entryFrame m #[.ref a, .ref b] 2)) (s₁.setTop (mkF m 0 #[.val (.ref a), .val (.ref b)] [])) := entry rfl
  have c2 : Steps p.tables e below (s₁.setTop (entryFrame m #[.ref a, .ref b] 2)) (s₁.setTop (mkF m 6 #[.val (.ref a), .val (.ref b)] [.null, .int (Int32.ofNat A.slots.size), .int 0, .ref b, .ref a])) := c1.trans (by
    refine XS.aloadN X0.here hexec rfl (hb hbytes d0) rfl rfl ?_
    refine XS.aloadN X0.here hexec rfl (hb hbytes d1) rfl rfl ?_
    refine iconstV X0.here hexec rfl 0 (hb hbytes d2) (by decide) ?_
    refine XS.aloadN X0.here hexec rfl (hb hbytes d3) rfl rfl ?_
    refine X0.alen hexec (hA.1.mv X0.warmed.alike hh0) rfl rfl (hb hbytes d4) ?_
    refine XS.aconstNull X0.here hexec rfl (hb hbytes d5) ?_
    exact Steps.refl _)
  obtain ⟨v3, T3, X3, E3, g3⟩ := X0.callN hexec (New4.law l a D fV fC b A z 0 A.slots.size) rfl hown (wks W (initW "java/lang/String" 27 New4.yN)) (W New4.tab (by simp only [site, List.mem_cons, List.mem_append, true_or, or_true])) (W := 0) (Nat.le_of_ble_eq_true rfl) (Nat.le_of_ble_eq_true rfl) (Nat.le_refl _) (by show 0 + A.slots.size ≤ A.slots.size; omega) (g := (mkF m 6 #[.val (.ref a), .val (.ref b)] [.null, .int (Int32.ofNat A.slots.size), .int (Int32.ofNat 0), .ref b, .ref a])) rfl (by rw [hml]; rfl) c2 (argsL := [.ref b, .int (Int32.ofNat 0), .int (Int32.ofNat A.slots.size), .null]) (rest := []) rfl rfl (by show 2 * 0 + 0 ≤ _; decide) (hb hbytes d6) (⟨rfl, hB.mv X0.warmed.alike hh0, f1.al X0.warmed.alike, f2.al X0.warmed.alike, hA.mv X0.warmed.alike hh0, s1.there X0.warmed.alike hh0, hz, l0, by omega, l2, fun i hi => by rw [Nat.zero_add]; exact hp i hi⟩)
  have e0 := Got.mv _ s₁ s _ _ hh0.symm (Vm.Alike.refl _) rfl E3
  obtain rfl := e0.1
  have c4 : Steps p.tables e below (s₁.setTop (entryFrame m #[.ref a, .ref b] 2)) (T3.setTop (mkF m 9 #[.val (.ref a), .val (.ref b)] [])) := g3
  exact ⟨T3, none, _, _, _, X3, by simp, rfl, by omega, (fun _ => rfl), e0, fun fs hl => c4.trans (X3.returnOut hexec hret (hb hbytes d9) hl)⟩
theorem pays {l : Launch} {R : Room} {p : Program} {e : Env} {below : List Frame} {s : State} {sargs : Array Value} {len W : Nat} (a : Addr) (D : Cell) (fV fC : Field) (b : Addr) (A : Cell) (z : Int32) (htab : tab.before sargs s = true) (hfr : 4 ≤ R.frames) (hlo : W + 65 ≤ R.locals) :
    Back l R p e below s sargs yN len W (fun A₁ a₁ => A₁.cells + 1 ≤ R.cells ∧ A₁.slots + A.slots.size ≤ R.slots ∧ P a D fV fC b A z a₁ A₁.U) (fun A₁ _ v₁ B₁ => E a D fV fC A v₁ A₁.U B₁.U ∧ B₁.locs = A₁.locs ++ [⟨a, fC.slot⟩, ⟨a, fV.slot⟩] ∧ B₁.cells = A₁.cells + 1 ∧ B₁.slots = A₁.slots + A.slots.size) :=
  (law l a D fV fC b A z).pays htab hfr (by omega)
end New1
/-- the byte, read back as charAt reads it, is the char -/
theorem lo8_mask {x : Int32} (h0 : ¬ x < 0) (h1 : ¬ 255 < x) : lo8 x &&& 255 = x := by
  have t : ∀ k : Fin 256, lo8 (Int32.ofNat k.val) &&& 255 = Int32.ofNat k.val := by decide +kernel
  rw [Int32.lt_iff_toInt_lt] at h0 h1
  have e0 : (0 : Int32).toInt = 0 := rfl
  have e1 : (255 : Int32).toInt = 255 := rfl
  obtain ⟨k, hk⟩ : ∃ k : Nat, x.toInt = k := ⟨x.toInt.toNat, by omega⟩
  have hx : x = Int32.ofNat k := Int32.toInt_inj.mp (by rw [hk, Int32.toInt_ofNat_small (by omega)])
  rw [hx]
  exact t ⟨k, by omega⟩
end StrChars
namespace StrChars.Road
open Jvm Sem ClassFile Op Lib Jvm.Stand Jvm.Free Jvm.Free.XT
open Jvm.Lib.Cold (StaticIs)
abbrev ST : String := "java/lang/String"
/-- every table word that New1's law asks, flat -/
abbrev words : List Jvm.Cond := [.code New1.yN New1.yB 2 none, .initialized ST, .methodLink ST 27 New4.yN, .instanceMethod New4.yN,
  .code New4.yN New4.yB 6 none, .fieldLink ST 38 ST "COMPACT_STRINGS" "Z", .laysFinal ST ST "value" "[B", .fieldLink ST 9 ST "value" "[B", .laysFinal ST ST "coder" "B", .fieldLink ST 15 ST "coder" "B",
  .methodLink ST 1 Lib.objectInit, .instanceMethod Lib.objectInit, .code Lib.objectInit ⟨#[0xb1]⟩ 1 none, .methodLink ST 177 Cmp3.yN, .static Cmp3.yN, .methodLink ST 47 CodL.yN, .static CodL.yN,
  .code Cmp3.yN Cmp3.yB 6 (some (.array .byte)), .initialized U16, .arrayClass .byte, .methodLink U16 115 Cmp5.yN, .static Cmp5.yN, .code Cmp5.yN Cmp5.yB 7 (some .int), .code CodL.yN CodL.yB 2 (some .byte)]
theorem tab_of {a : Array Value} {s : State} (h : ∀ w ∈ words, w.before a s = true) : New1.tab.before a s = true := by
  have h5 : Cmp5.tab.before a s = true := unparts (wk h (.code Cmp5.yN Cmp5.yB 7 (some .int))) (wks h (.initialized Cmp5.yN.cls :: Cmp5.site))
  have hc : CodL.tab.before a s = true := unparts (wk h (.code CodL.yN CodL.yB 2 (some .byte))) (wks h (.initialized CodL.yN.cls :: CodL.site))
  have q5 : ∀ w ∈ Cmp5.tab :: words, w.before a s = true := fun w hw => (List.mem_cons.mp hw).elim (fun e => e ▸ h5) (h w)
  have h3 : Cmp3.tab.before a s = true := unparts (wk q5 (.code Cmp3.yN Cmp3.yB 6 (some (.array .byte)))) (wks q5 (.initialized Cmp3.yN.cls :: Cmp3.site))
  have q3 : ∀ w ∈ Cmp3.tab :: CodL.tab :: words, w.before a s = true := fun w hw => (List.mem_cons.mp hw).elim (fun e => e ▸ h3) fun hw => (List.mem_cons.mp hw).elim (fun e => e ▸ hc) (h w)
  have h4 : New4.tab.before a s = true := unparts (wk q3 (.code New4.yN New4.yB 6 none)) (wks q3 (.initialized New4.yN.cls :: New4.site))
  have q4 : ∀ w ∈ New4.tab :: words, w.before a s = true := fun w hw => (List.mem_cons.mp hw).elim (fun e => e ▸ h4) (h w)
  exact unparts (wk q4 (.code New1.yN New1.yB 2 none)) (wks q4 (.initialized New1.yN.cls :: New1.site))
/-- the words ride from the start Z to the walk's own state -/
theorem moved {Z s : State} {a0 args : Array Value} (hZ : Z.Warmed39 s.vm) (hw : ∀ d ∈ words, d.before a0 Z = true) : ∀ d ∈ words, d.before args s = true := fun d hd => by
  have q := hw d hd
  have t : ∀ d ∈ words, d = .arrayClass .byte ∨ (d.onTables && d.keepsFace) = true := by decide +kernel
  rcases t d hd with rfl | t
  · exact RoadKit.mvA hZ q
  · exact RoadKit.mv hZ q t
/-- WHAT COMES BACK, over the tables of the start Z: h the heap at the call, h' behind it -/
def Q (Z : State) (x : Addr) (A : Cell) (h : Heap) (v : Option Value) (h' : Heap) (L : List Loc) : Prop := v = none ∧ (∀ y ∈ L, y.base = x) ∧ RoadKit.Keep h h' [x] ∧ h'.size = h.size + 1 ∧ RoadKit.Exa Z h' x ST ∧ RoadKit.Fld Z h' x ST "value" "[B" (.ref h.size) ∧ RoadKit.Fld Z h' x ST "coder" "B" (.int 0) ∧
  (∃ V : Cell, RoadKit.Arr Z h' h.size V .byte ∧ V.vm = .none ∧ Z.vm.findClass "[B" = some V.cls ∧ V.slots.size = A.slots.size ∧ ∀ j, j < A.slots.size → V.slots[j]? = some (.int (lo8 (cv A j)))) ∧
  ∀ (O n d : String) (w : Value), RoadKit.Fld Z h x O n d w → RoadKit.slotOf Z O n d ≠ RoadKit.slotOf Z ST "value" "[B" → RoadKit.slotOf Z O n d ≠ RoadKit.slotOf Z ST "coder" "B" → RoadKit.Fld Z h' x O n d w
/-- **new String(chars) AT A CALL, IN THE ROAD'S FORM**: for specialBack behind newO: x the fresh String, b the char[] with the cell A -/
theorem back {p : Program} {l : Launch} {e : Env} {R : Room} {s : State} {args : Array Value} {below : List Frame} {len W : Nat} {Z : State} {a0 : Array Value} {h : Heap} (hZ : Z.Warmed39 s.vm) (hw : ∀ d ∈ words, d.before a0 Z = true) {kI : Nat} (wi : (Jvm.Cond.instantiable ST kI).before a0 Z = true)
    {x b : Addr} {A : Cell} {z : Int32} {v0 c0 : Value} (E : RoadKit.Exa Z h x ST) (V : RoadKit.Fld Z h x ST "value" "[B" v0) (C : RoadKit.Fld Z h x ST "coder" "B" c0) (K : RoadKit.Arr Z h b A .char) (hty : Typed .char A) (S : RoadKit.Sta Z h ST "COMPACT_STRINGS" "Z" (.int z)) (hz : ¬ z = 0)
    (l0 : 0 < A.slots.size) (l2 : A.slots.size ≤ 536870912) (hp : ∀ i, i < A.slots.size → ¬ 255 < cv A i) (hfr : 4 ≤ R.frames) (hlo : W + 65 ≤ R.locals) :
    Back l R p e below s args New1.yN len W (fun P a => a = #[.ref x, .ref b] ∧ P.U.heap = h ∧ P.cells + 1 ≤ R.cells ∧ P.slots + A.slots.size ≤ R.slots)
      (fun P _ v B => ∃ L, Q Z x A h v B.U.heap L ∧ B.locs = P.locs ++ L ∧ B.cells = P.cells + 1 ∧ B.slots = P.slots + A.slots.size) := by
  intro m meth c P g ig mk a X hg hsize hdg hW hn hp'
  obtain ⟨rfl, rfl, r1, r2⟩ := hp'
  have al : Z.vm.Alike P.U.vm := hZ.alike.trans X.warmed.alike
  obtain ⟨D, cfV, kV, iV, fV, hD, gV, stV, knV, obV, asV, slV⟩ := id V
  obtain ⟨D', cfC, kC, iC, fC, hD', gC, stC, -, -, asC, slC⟩ := id C
  cases hD.symm.trans hD'
  obtain ⟨D2, kD, e1, e2, e3, e4, e5⟩ := id E
  cases hD.symm.trans e1
  obtain ⟨c2, k2, i1, i2, i3, -⟩ := Cond.instantiable_spec wi
  cases e2.symm.trans i1
  cases e3.symm.trans i2
  obtain ⟨kU, u1, u2⟩ := al.2.2 _ _ e3
  have hB : Blank ST x D P.U := ⟨hD, ⟨knV, fun q hq => by rw [hq] at obV; cases obV⟩, by rw [al.findClass]; exact e2, kU, u1, by rw [u2]; exact i3, by rw [u2]; exact e5 i3⟩
  have F1 : Found ST "value" "[B" fV P.U := ⟨SBG.found_only al ⟨cfV, kV, iV, gV⟩, stV⟩
  have F2 : Found ST "coder" "B" fC P.U := ⟨SBG.found_only al ⟨cfC, kC, iC, gC⟩, stC⟩
  have hA : Ch b A P.U := ⟨⟨K.1, State.isArrayOf_alike al K.2.1, K.2.2, by omega⟩, hty⟩
  have hS : StaticIs P.U ST "COMPACT_STRINGS" "Z" (.int z) := by
    obtain ⟨cfS, iS, kS, fS, st, cS, t1, t2, t3, t4, t5, t6, t7⟩ := S
    exact StaticIs.there (s := { Z with heap := P.U.heap }) ⟨cfS, iS, kS, fS, st, cS, t1, t2, t3, t4, t5, (fun q => by rw [q] at t6; cases t6), t7⟩ al rfl
  obtain ⟨v, B, X', ⟨⟨hv, E', V', q1, q2, q3, q4, q5, q6, q7, q8, q9, q10, q11⟩, hl, hc, hs⟩, st⟩ := New1.pays x D fV fC b A z (tab_of (moved hZ hw)) hfr hlo m meth c P g ig mk _ X hg hsize hdg hW hn ⟨r1, r2, rfl, hB, F1, F2, hA, hS, hz, l0, l2, hp⟩
  have al' : Z.vm.Alike B.U.vm := hZ.alike.trans X'.warmed.alike
  have hsz : E'.slots.size = D.slots.size := by
    obtain ⟨-, -, -, kB, w1, w2, w3⟩ := q1
    obtain ⟨kB', y1, y2⟩ := al'.2.2 _ _ e3
    rw [q2.2.1] at w1
    cases w1.symm.trans y1
    rw [w3, e5 i3, y2]
  refine ⟨v, B, X', ⟨_, ⟨hv, ?_, ⟨by omega, fun y cy hy hn' => q10 y cy (by simpa using hn') hy, fun y cy hy => ?_⟩, q11, ⟨E', _, q1.1, by rw [q2.2.1]; exact e2, by rw [q2.2.1]; exact e3, by rw [q2.1]; exact obV, fun _ => by rw [hsz]; exact e5 i3⟩,
    ⟨E', cfV, kV, iV, fV, q1.1, gV, stV, by rw [q2.1]; exact knV, by rw [q2.1]; exact obV, by rw [q2.2.1]; exact asV, q3⟩, ⟨E', cfC, kC, iC, fC, q1.1, gC, stC, by rw [q2.1]; exact knV, by rw [q2.1]; exact obV, by rw [q2.2.1]; exact asC, q4⟩,
    ⟨V', ⟨q5.1, State.isArrayOf_alike al'.symm q5.2.1, q5.2.2.1⟩, q6, by rw [← al'.findClass]; exact q7, q8, fun j hj => by have := q9 j hj; rwa [Nat.zero_add] at this⟩, fun O n d w F n1 n2 => ?_⟩, hl, hc, hs⟩, st⟩
  · intro y hy
    simp only [List.mem_cons, List.not_mem_nil, or_false] at hy
    rcases hy with rfl | rfl <;> rfl
  · by_cases q : y = x
    · subst q
      cases hD.symm.trans hy
      exact ⟨E', q1.1, q2.2.1, q2.1, hsz⟩
    · exact ⟨cy, q10 y cy q hy, rfl, rfl, rfl⟩
  · obtain ⟨D3, cf, k, i, f, g1, g2, g3, g4, g5, g6, g7⟩ := F
    cases hD.symm.trans g1
    simp only [RoadKit.slotOf, g2, gV, gC, Option.map_some, Option.getD_some] at n1 n2
    exact ⟨E', cf, k, i, f, q1.1, g2, g3, by rw [q2.1]; exact g4, by rw [q2.1]; exact g5, by rw [q2.2.1]; exact g6, by rw [q2.2.2 f.slot (by simp [n1, n2])]; exact g7⟩
end StrChars.Road
namespace StrChars.Road
open Jvm Sem ClassFile Op Lib Jvm.Stand Jvm.Free Jvm.Free.XT
/-- WHAT COMES BACK, the byte[] as a list of values -/
def QA (Z : State) (x : Addr) (zn : Int32) (cs : List Int32) (h : Heap) (v : Option Value) (h' : Heap) (L : List Loc) : Prop := v = none ∧ (∀ y ∈ L, y.base = x) ∧ RoadKit.Keep h h' [x] ∧ h'.size = h.size + 1 ∧ RoadKit.Exa Z h' x ST ∧ RoadKit.Fld Z h' x ST "value" "[B" (.ref h.size) ∧ RoadKit.Fld Z h' x ST "coder" "B" (.int 0) ∧
  (∃ kb, Z.vm.findClass "[B" = some kb ∧ RoadKit.Arv Z h' h.size kb .byte zn (cs.map fun c => .int (lo8 c)) (.int 0)) ∧
  ∀ (O n d : String) (w : Value), RoadKit.Fld Z h x O n d w → RoadKit.slotOf Z O n d ≠ RoadKit.slotOf Z ST "value" "[B" → RoadKit.slotOf Z O n d ≠ RoadKit.slotOf Z ST "coder" "B" → RoadKit.Fld Z h' x O n d w
/-- **new String(chars) AT A CALL, THE ARRAYS AS LISTS**: the char[] at b holds cs, not empty, no char above 255 -/
theorem backArv {p : Program} {l : Launch} {e : Env} {R : Room} {s : State} {args : Array Value} {below : List Frame} {len W : Nat} {Z : State} {a0 : Array Value} {h : Heap} (hZ : Z.Warmed39 s.vm) (hw : ∀ d ∈ words, d.before a0 Z = true) {kI : Nat} (wi : (Jvm.Cond.instantiable ST kI).before a0 Z = true)
    {x b : Addr} {k : ClassId} {zn z : Int32} {cs : List Int32} {dv v0 c0 : Value} (E : RoadKit.Exa Z h x ST) (V : RoadKit.Fld Z h x ST "value" "[B" v0) (C : RoadKit.Fld Z h x ST "coder" "B" c0) (K : RoadKit.Arv Z h b k .char zn (cs.map Value.int) dv) (S : RoadKit.Sta Z h ST "COMPACT_STRINGS" "Z" (.int z)) (hz : ¬ z = 0)
    (hlen : zn.toNatClampNeg = cs.length) (h0 : 0 < cs.length) (hbig : cs.length ≤ 536870912) (hall : ∀ c ∈ cs, ¬ 255 < c) (hfr : 4 ≤ R.frames) (hlo : W + 65 ≤ R.locals) :
    Back l R p e below s args New1.yN len W (fun P a => a = #[.ref x, .ref b] ∧ P.U.heap = h ∧ P.cells + 1 ≤ R.cells ∧ P.slots + cs.length ≤ R.slots)
      (fun P _ v B => ∃ L, QA Z x zn cs h v B.U.heap L ∧ B.locs = P.locs ++ L ∧ B.cells = P.cells + 1 ∧ B.slots = P.slots + cs.length) := by
  obtain ⟨A, K1, K2, K3, K4, K5, K6⟩ := K
  have e : A.slots.size = cs.length := K3.trans hlen
  have hat : ∀ (i : Nat) (hi : i < cs.length), A.slots[i]? = some (.int cs[i]) := fun i hi => by rw [K5 i (by omega)]; simp [List.getD_eq_getElem?_getD, hi]
  have hcv : ∀ (i : Nat) (hi : i < cs.length), cv A i = cs[i] := fun i hi => by unfold cv; rw [hat i hi]
  have hty : Typed .char A := fun i v hv => by
    have hi : i < A.slots.size := (Array.getElem?_eq_some_iff.mp hv).1
    have q := K5 i hi
    rw [hv] at q
    rw [Option.some.inj q]
    exact K6 i hi
  refine Back.mono (back hZ hw wi E V C K1 hty S hz (by omega) (by omega) (fun i hi => by rw [hcv i (by omega)]; exact hall _ (List.getElem_mem _)) hfr hlo) (fun P a hp => ⟨hp.1, hp.2.1, hp.2.2.1, by rw [e]; exact hp.2.2.2⟩) (fun P a v B hp hq => ?_)
  obtain ⟨L, ⟨q1, q2, q3, q4, q5, q6, q7, ⟨V', v1, v2, v3, v4, v5⟩, q9⟩, hl, hc, hs⟩ := hq
  refine ⟨L, ⟨q1, q2, q3, q4, q5, q6, q7, ⟨V'.cls, v3, V', v1, rfl, by rw [v4, e, hlen], K4, fun i hi => ?_, fun i hi => ?_⟩, q9⟩, hl, hc, by rw [hs, e]⟩
  · have hi' : i < cs.length := by omega
    rw [v5 i (by omega), hcv i hi']; simp [List.getD_eq_getElem?_getD, hi']
  · have hi' : i < cs.length := by omega
    simp only [List.getD_eq_getElem?_getD, List.getElem?_map, List.getElem?_eq_getElem hi', Option.map_some, Option.getD_some]
    exact fits_lo8 _
end StrChars.Road
namespace StrChars.Road
open Jvm Sem ClassFile Op Lib Jvm.Stand Jvm.Free Jvm.Free.XT
/-- WHAT COMES BACK, in the writer's own shape -/
def QV (Z : State) (x : Addr) (N : Int32) (bs : List Int32) (h : Heap) (n0 : Nat) (v : Option Value) (h' : Heap) (L : List Loc) : Prop := v = none ∧ RoadKit.Fr n0 L ∧ RoadKit.Keep h h' [x] ∧ RoadKit.Exa Z h' x ST ∧ RoadKit.Fld Z h' x ST "coder" "B" (.int 0) ∧
  ∃ (t : Addr) (kb : ClassId), n0 ≤ t ∧ h.size ≤ t ∧ ¬ t = x ∧ RoadKit.Fld Z h' x ST "value" "[B" (.ref t) ∧ RoadKit.Arv Z h' t kb .byte N (bs.map Value.int) (.int 0)
/-- **new String(chars) AT A CALL, FOR THE WRITER**: a char[] of n known ints, each 0 to 255 -/
theorem backV {p : Program} {l : Launch} {e : Env} {R : Room} {s : State} {args : Array Value} {below : List Frame} {len W : Nat} {Z : State} {a0 : Array Value} {h : Heap} (hZ : Z.Warmed39 s.vm) (hw : ∀ d ∈ words, d.before a0 Z = true) {kI : Nat} (wi : (Jvm.Cond.instantiable ST kI).before a0 Z = true)
    {x b : Addr} {kC : ClassId} {cs bs : List Int32} {d v0 c0 : Value} {z N : Int32} {n n0 : Nat} (hx0 : n0 ≤ x) (hh0 : n0 ≤ h.size) (E : RoadKit.Exa Z h x ST) (V : RoadKit.Fld Z h x ST "value" "[B" v0) (C : RoadKit.Fld Z h x ST "coder" "B" c0) (K : RoadKit.Arv Z h b kC .char N (cs.map Value.int) d) (S : RoadKit.Sta Z h ST "COMPACT_STRINGS" "Z" (.int z)) (hz : ¬ z = 0)
    (hn : cs.length = n) (hN : N = Int32.ofNat n) (l0 : 0 < n) (l2 : n ≤ 4000) (hp : ∀ c ∈ cs, ¬ c < 0 ∧ ¬ (255 : Int32) < c) (hb : bs = cs.map (fun c => c.toInt8.toInt32)) (hfr : 4 ≤ R.frames) (hlo : W + 65 ≤ R.locals) :
    Back l R p e below s args (⟨"java/lang/String", "<init>", "([C)V"⟩ : MethodName) len W (fun P a => a = #[.ref x, .ref b] ∧ P.U.heap = h ∧ P.cells + 1 ≤ R.cells ∧ P.slots + n ≤ R.slots)
      (fun P _ v B => ∃ L, QV Z x N bs h n0 v B.U.heap L ∧ B.locs = P.locs ++ L ∧ B.cells = P.cells + 1 ∧ B.slots = P.slots + n) := by
  subst hn hN hb
  refine Back.mono (backArv hZ hw wi E V C K S hz (n32 (by omega)) l0 (by omega) (fun c hc => (hp c hc).2) hfr hlo) (fun P a hp => hp) (fun P a v B hp hq => ?_)
  obtain ⟨L, ⟨q1, q2, q3, q4, q5, q6, q7, ⟨kb, v1, v2⟩, q9⟩, hl, hc, hs⟩ := hq
  exact ⟨L, ⟨q1, fun y hy => by rw [q2 y hy]; exact hx0, q3, q5, q7, h.size, kb, hh0, Nat.le_refl _, Nat.ne_of_gt E.lt, q6, by rw [List.map_map]; exact v2⟩, hl, hc, hs⟩
end StrChars.Road
namespace StrChars
open Jvm Sem ClassFile Op Lib Jvm.Stand Jvm.Free.XT Jvm.Free.ALB Jvm.Free.JM Jvm.Free
open Jvm.Lib.Cold (StaticIs)
def hi8 (x : Int32) : Int32 := lo8 (x >>> ((8 : Int32) &&& 31))
/-- what StringUTF16.getChar makes of two bytes -/
def pairCh (u v : Int32) : Int32 := (((u &&& 255) <<< ((0 : Int32) &&& 31)) ||| ((v &&& 255) <<< ((8 : Int32) &&& 31))).toUInt32.toUInt16.toUInt32.toInt32
theorem lo8_and (x : Int32) : (lo8 x &&& 255).toBitVec.toNat = x.toBitVec.toNat % 256 := by
  have h : (lo8 x).toBitVec = (x.toBitVec.signExtend 8).signExtend 32 := by rw [lo8, Int8.toBitVec_toInt32, Int32.toBitVec_toInt8]
  rw [Int32.toBitVec_and, BitVec.toNat_and, h]
  have e : ((x.toBitVec.signExtend 8).signExtend 32).toNat % 256 = x.toBitVec.toNat % 256 := by
    rw [BitVec.toNat_signExtend]
    have hlt := x.toBitVec.isLt
    simp only [BitVec.toNat_setWidth, BitVec.toNat_signExtend]
    split <;> split <;> omega
  rw [← e]
  exact Nat.and_two_pow_sub_one_eq_mod _ 8
theorem pair_says {c : Int32} (h0 : ¬ c < 0) (h1 : ¬ 65535 < c) : pairCh (lo8 c) (hi8 c) = c := by
  rw [Int32.lt_iff_toInt_lt] at h0 h1
  have e0 : (0 : Int32).toInt = 0 := rfl
  have e1 : (65535 : Int32).toInt = 65535 := rfl
  have hc : c.toInt = c.toBitVec.toNat := by
    have := c.toBitVec.isLt
    have e : c.toInt = c.toBitVec.toInt := rfl
    rw [e] at h0 h1
    rw [e]
    rw [BitVec.toInt_eq_toNat_cond] at h0 h1 ⊢
    split at h0 <;> split <;> omega
  have hn : c.toBitVec.toNat < 65536 := by omega
  have a1 := lo8_and c
  have a2 : (hi8 c &&& 255).toBitVec.toNat = c.toBitVec.toNat / 256 := by
    rw [hi8, lo8_and]
    have e : ((8 : Int32) &&& 31) = 8 := by decide
    rw [e, Int32.toBitVec_shiftRight]
    have e2 : ((8 : Int32).toBitVec.smod 32) = 8#32 := by decide
    rw [e2, BitVec.sshiftRight_eq', BitVec.toNat_sshiftRight_of_msb_false (by rw [BitVec.msb_eq_false_iff_two_mul_lt]; omega)]
    show c.toBitVec.toNat >>> 8 % 256 = _
    rw [Nat.shiftRight_eq_div_pow]
    omega
  unfold pairCh
  apply Int32.toBitVec_inj.mp
  apply BitVec.eq_of_toNat_eq
  have f0 : ((0 : Int32) &&& 31) = 0 := by decide
  have f8 : ((8 : Int32) &&& 31) = 8 := by decide
  rw [f0, f8]
  have g : (((lo8 c &&& 255) <<< (0 : Int32)) ||| ((hi8 c &&& 255) <<< (8 : Int32))).toBitVec.toNat = c.toBitVec.toNat := by
    rw [Int32.toBitVec_or, Int32.toBitVec_shiftLeft, Int32.toBitVec_shiftLeft]
    have s0 : ((0 : Int32).toBitVec.smod 32) = 0#32 := by decide
    have s8 : ((8 : Int32).toBitVec.smod 32) = 8#32 := by decide
    rw [s0, s8, BitVec.toNat_or]
    simp only [BitVec.shiftLeft_eq', BitVec.toNat_shiftLeft, a1, a2]
    show (c.toBitVec.toNat % 256) <<< 0 % 2 ^ 32 ||| (c.toBitVec.toNat / 256) <<< 8 % 2 ^ 32 = _
    rw [Nat.shiftLeft_zero, Nat.mod_eq_of_lt (show c.toBitVec.toNat % 256 < 2 ^ 32 by omega), Nat.mod_eq_of_lt (show (c.toBitVec.toNat / 256) <<< 8 < 2 ^ 32 by rw [Nat.shiftLeft_eq]; omega), Nat.or_comm, ← Nat.shiftLeft_add_eq_or_of_lt (by omega), Nat.shiftLeft_eq]
    omega
  show BitVec.toNat (((((lo8 c &&& 255) <<< (0 : Int32)) ||| ((hi8 c &&& 255) <<< (8 : Int32))).toBitVec.setWidth 16).setWidth 32) = _
  rw [BitVec.toNat_setWidth, BitVec.toNat_setWidth, g]
  omega
end StrChars
namespace StrChars
open Jvm Sem ClassFile Op Lib Jvm.Stand Jvm.Free.XT Jvm.Free.ALB Jvm.Free.JM Jvm.Free
open Jvm.Lib.Cold (StaticIs)
/-- the array's cell V codes the n chars f 0 .. f (n - 1) by the coder cd, as the JDK does: coder 1 just where some char is above 255 -/
def Cod (cd : Int32) (n : Nat) (f : Nat → Int32) (V : Cell) : Prop := (cd = 0 ∧ V.slots.size = n ∧ ∀ j, j < n → V.slots[j]? = some (.int (lo8 (f j))) ∧ ¬ 255 < f j) ∨ (cd = 1 ∧ V.slots.size = 2 * n ∧ (∀ j, j < n → V.slots[2 * j]? = some (.int (lo8 (f j))) ∧ V.slots[2 * j + 1]? = some (.int (hi8 (f j)))) ∧ ∃ j, j < n ∧ 255 < f j)
/-- **x is a String of the n chars f 0 .. f (n - 1)**, Latin-1 or UTF-16; its array at t has the cell V -/
def Txt (x t : Addr) (V : Cell) (cd : Int32) (n : Nat) (f : Nat → Int32) (U : State) : Prop := Exact "java/lang/String" x U ∧ Has x "java/lang/String" "value" "[B" (.ref t) U ∧ Has x "java/lang/String" "coder" "B" (.int cd) U ∧ XT.Arr .byte t V U ∧ Cod cd n f V ∧ ∀ j, j < n → ¬ f j < 0 ∧ ¬ 65535 < f j
theorem Txt.mv {x t : Addr} {V : Cell} {cd : Int32} {n : Nat} {f : Nat → Int32} {U U' : State} (h : Txt x t V cd n f U) (hal : U.vm.Alike U'.vm) (hh : U'.heap = U.heap) : Txt x t V cd n f U' := ⟨h.1.mv hal hh, h.2.1.mv hal hh, h.2.2.1.mv hal hh, h.2.2.2.1.mv hal hh, h.2.2.2.2⟩
end StrChars
namespace StrChars.Road
open Jvm Sem ClassFile Op Lib Jvm.Stand Jvm.Free Jvm.Free.XT
open Jvm.Lib.Cold (StaticIs)
theorem consq {a : Array Value} {s : State} {c : Jvm.Cond} {L : List Jvm.Cond} (h0 : c.before a s = true) (h : ∀ w ∈ L, w.before a s = true) : ∀ w ∈ c :: L, w.before a s = true := fun w hw => (List.mem_cons.mp hw).elim (fun e => e ▸ h0) (h w)
/-- the bytes of the chars cs, low before high -/
def wideBytes : List Int32 → List Value
  | [] => []
  | c :: cs => .int (lo8 c) :: .int (hi8 c) :: wideBytes cs
theorem wide_lo (d : Value) : ∀ (cs : List Int32) (j : Nat), j < cs.length → (wideBytes cs).getD (2 * j) d = .int (lo8 (cs.getD j 0))
  | [], j, h => absurd h (Nat.not_lt_zero j)
  | c :: cs, 0, _ => rfl
  | c :: cs, j + 1, h => by
    have q := wide_lo d cs j (by simpa using h)
    rw [show 2 * (j + 1) = 2 * j + 1 + 1 from by omega]
    simpa [wideBytes] using q
theorem wide_hi (d : Value) : ∀ (cs : List Int32) (j : Nat), j < cs.length → (wideBytes cs).getD (2 * j + 1) d = .int (hi8 (cs.getD j 0))
  | [], j, h => absurd h (Nat.not_lt_zero j)
  | c :: cs, 0, _ => rfl
  | c :: cs, j + 1, h => by
    have q := wide_hi d cs j (by simpa using h)
    rw [show 2 * (j + 1) + 1 = 2 * j + 1 + 1 + 1 from by omega]
    simpa [wideBytes] using q
theorem low_at (d : Value) (cs : List Int32) (j : Nat) (h : j < cs.length) : (cs.map fun c => Value.int (lo8 c)).getD j d = .int (lo8 (cs.getD j 0)) := by
  simp [List.getD_eq_getElem?_getD, h]
/-- an array of N2 bytes vs codes the chars cs by the coder cd -/
def CodA (cs : List Int32) (cd N2 : Int32) (vs : List Value) : Prop := (cd = 0 ∧ N2 = Int32.ofNat cs.length ∧ vs = (cs.map fun c => Value.int (lo8 c)) ∧ ∀ c ∈ cs, ¬ 255 < c) ∨ (cd = 1 ∧ N2 = Int32.ofNat (2 * cs.length) ∧ vs = wideBytes cs ∧ ∃ c ∈ cs, 255 < c)
theorem CodA.cod {cs : List Int32} {cd N2 : Int32} {vs : List Value} {V : Cell} (h : CodA cs cd N2 vs) (hn : 2 * cs.length < 2 ^ 31) (hs : V.slots.size = N2.toNatClampNeg) (hv : RoadKit.Has V vs (.int 0)) : Cod cd cs.length (fun j => cs.getD j 0) V := by
  rcases h with ⟨rfl, rfl, rfl, h⟩ | ⟨rfl, rfl, rfl, c, hc, hw⟩
  · rw [n32 (by omega)] at hs
    exact Or.inl ⟨rfl, hs, fun j hj => ⟨by rw [hv j (by omega), low_at _ _ _ hj], by
      have e : cs.getD j 0 = cs[j] := by simp [List.getD_eq_getElem?_getD, hj]
      show ¬ 255 < cs.getD j 0
      rw [e]; exact h _ (List.getElem_mem _)⟩⟩
  · rw [n32 (by omega)] at hs
    obtain ⟨j, hj, rfl⟩ := List.getElem_of_mem hc
    exact Or.inr ⟨rfl, hs, fun j hj => ⟨by rw [hv _ (by omega), wide_lo _ _ _ hj], by rw [hv _ (by omega), wide_hi _ _ _ hj]⟩, j, hj, by
      have e : cs.getD j 0 = cs[j] := by simp [List.getD_eq_getElem?_getD, hj]
      show 255 < cs.getD j 0
      rw [e]; exact hw⟩
/-- an object of exactly java/lang/String, its two fields found: as the laws ask it -/
theorem strObj {Z U : State} {a0 : Array Value} {kI : Nat} (wi : (Jvm.Cond.instantiable ST kI).before a0 Z = true) (al : Z.vm.Alike U.vm) {x : Addr} {v0 c0 : Value} (E : RoadKit.Exa Z U.heap x ST) (V : RoadKit.Fld Z U.heap x ST "value" "[B" v0) (C : RoadKit.Fld Z U.heap x ST "coder" "B" c0) :
    ∃ (D : Cell) (fV fC : Field), Blank ST x D U ∧ Found ST "value" "[B" fV U ∧ Found ST "coder" "B" fC U ∧ D.slots[fV.slot]? = some v0 ∧ D.slots[fC.slot]? = some c0 ∧ RoadKit.slotOf Z ST "value" "[B" = fV.slot ∧ RoadKit.slotOf Z ST "coder" "B" = fC.slot := by
  obtain ⟨D, cfV, kV, iV, fV, hD, gV, stV, knV, obV, asV, slV⟩ := V
  obtain ⟨D', cfC, kC, iC, fC, hD', gC, stC, -, -, asC, slC⟩ := C
  cases hD.symm.trans hD'
  obtain ⟨D2, kD, e1, e2, e3, e4, e5⟩ := E
  cases hD.symm.trans e1
  obtain ⟨c2, k2, i1, i2, i3, -⟩ := Cond.instantiable_spec wi
  cases e2.symm.trans i1
  cases e3.symm.trans i2
  obtain ⟨kU, u1, u2⟩ := al.2.2 _ _ e3
  exact ⟨D, fV, fC, ⟨hD, ⟨knV, fun q hq => by rw [hq] at obV; cases obV⟩, by rw [al.findClass]; exact e2, kU, u1, by rw [u2]; exact i3, by rw [u2]; exact e5 i3⟩, ⟨SBG.found_only al ⟨cfV, kV, iV, gV⟩, stV⟩, ⟨SBG.found_only al ⟨cfC, kC, iC, gC⟩, stC⟩, slV, slC, by simp [RoadKit.slotOf, gV], by simp [RoadKit.slotOf, gC]⟩
theorem sta_is {Z U : State} (al : Z.vm.Alike U.vm) {C n d : String} {v : Value} (S : RoadKit.Sta Z U.heap C n d v) : StaticIs U C n d v := by
  obtain ⟨cfS, iS, kS, fS, st, cS, t1, t2, t3, t4, t5, t6, t7⟩ := S
  exact StaticIs.there (s := { Z with heap := U.heap }) ⟨cfS, iS, kS, fS, st, cS, t1, t2, t3, t4, t5, (fun q => by rw [q] at t6; cases t6), t7⟩ al rfl
end StrChars.Road
namespace StrChars
open Jvm Sem ClassFile Op Lib Jvm.Stand Jvm.Free.XT Jvm.Free.ALB Jvm.Free.JM Jvm.Free
open Jvm.Lib.Cold (StaticIs)
/-- what place i of a byte[]'s cell holds -/
def yv (A : Cell) (i : Nat) : Int32 := match A.slots[i]? with | some (.int x) => x | _ => 0
theorem yv_get {a : Addr} {A : Cell} {U : State} (h : XT.Arr .byte a A U) (ht : Typed .byte A) {i : Nat} (hi : i < A.slots.size) : A.slots[i]? = some (.int (yv A i)) := by
  have e := Array.getElem?_eq_getElem hi
  have f := ht i _ e
  unfold yv; rw [e]
  generalize A.slots[i] = v at f
  cases v <;> simp [fits] at f ⊢
/-- the two arrays are equal, place for place -/
def EqC (A B : Cell) : Prop := A.slots.size = B.slots.size ∧ ∀ i, i < A.slots.size → yv A i = yv B i
/-- a boolean that says whether p -/
def Says01 (q : Prop) (r : Option Value) (s u : State) : Prop := ∃ v : Int32, r = some (.int v) ∧ u.heap = s.heap ∧ ((v = 1 ∧ q) ∨ (v = 0 ∧ ¬ q))
theorem Says01.mv {q : Prop} : ∀ r (U U' V V' : State), U'.heap = U.heap → V.vm.Alike V'.vm → V'.heap = V.heap → Says01 q r U V → Says01 q r U' V' :=
  fun r U U' V V' h1 _ h2 ⟨v, a, b, c⟩ => ⟨v, a, by rw [h1, h2]; exact b, c⟩
namespace LEq
def yN : MethodName := ⟨"java/lang/StringLatin1", "equals", "([B[B)Z"⟩
abbrev yB : ByteArray := jdk_43_method_13_code
theorem d0 : decode yB 0 = .ok (.aload_n 0, 1) := by decide +kernel
theorem d1 : decode yB 1 = .ok (.arraylength, 1) := by decide +kernel
theorem d2 : decode yB 2 = .ok (.aload_n 1, 1) := by decide +kernel
theorem d3 : decode yB 3 = .ok (.arraylength, 1) := by decide +kernel
theorem d4 : decode yB 4 = .ok (.if_icmp (.ne) 30, 3) := by decide +kernel
theorem d7 : decode yB 7 = .ok (.iconst 0, 1) := by decide +kernel
theorem d8 : decode yB 8 = .ok (.istore_n 2, 1) := by decide +kernel
theorem d9 : decode yB 9 = .ok (.iload_n 2, 1) := by decide +kernel
theorem d10 : decode yB 10 = .ok (.aload_n 0, 1) := by decide +kernel
theorem d11 : decode yB 11 = .ok (.arraylength, 1) := by decide +kernel
theorem d12 : decode yB 12 = .ok (.if_icmp (.ge) 20, 3) := by decide +kernel
theorem d15 : decode yB 15 = .ok (.aload_n 0, 1) := by decide +kernel
theorem d16 : decode yB 16 = .ok (.iload_n 2, 1) := by decide +kernel
theorem d17 : decode yB 17 = .ok (.baload, 1) := by decide +kernel
theorem d18 : decode yB 18 = .ok (.aload_n 1, 1) := by decide +kernel
theorem d19 : decode yB 19 = .ok (.iload_n 2, 1) := by decide +kernel
theorem d20 : decode yB 20 = .ok (.baload, 1) := by decide +kernel
theorem d21 : decode yB 21 = .ok (.if_icmp (.eq) 5, 3) := by decide +kernel
theorem d24 : decode yB 24 = .ok (.iconst 0, 1) := by decide +kernel
theorem d25 : decode yB 25 = .ok (.ireturn, 1) := by decide +kernel
theorem d26 : decode yB 26 = .ok (.iinc 2 1, 3) := by decide +kernel
theorem d29 : decode yB 29 = .ok (.goto (-20), 3) := by decide +kernel
theorem d32 : decode yB 32 = .ok (.iconst 1, 1) := by decide +kernel
theorem d33 : decode yB 33 = .ok (.ireturn, 1) := by decide +kernel
theorem d34 : decode yB 34 = .ok (.iconst 0, 1) := by decide +kernel
theorem d35 : decode yB 35 = .ok (.ireturn, 1) := by decide +kernel
def site : List Cond := []
def tab : Cond := tabOf yN yB 3 (some .boolean) site
def P (a : Addr) (A : Cell) (b : Addr) (B : Cell) (args : Array Value) (s : State) : Prop := args = #[.ref a, .ref b] ∧ XT.Arr .byte a A s ∧ Typed .byte A ∧ XT.Arr .byte b B s ∧ Typed .byte B
/-- whether two byte[] are equal, place for place -/
theorem law (l : Launch) (a : Addr) (A : Cell) (b : Addr) (B : Cell) : Law l yN 2 2 0 0 yB 3 (some .boolean) site (P a A b B) (Says01 (EqC A B)) [] 0 0 := by
  refine Law.of_walk (plainFor_of_name (by decide +kernel)) (by decide +kernel) (by decide +kernel) (by decide) (fun _ _ h => by rw [h.1]; rfl) (fun _ U U' hal hh h => ⟨h.1, h.2.1.mv hal hh, h.2.2.1, h.2.2.2.1.mv hal hh, h.2.2.2.2⟩) (fun r U U' V V' h1 hal h2 h => Says01.mv r U U' V V' h1 hal h2 h) ?_
  intro p e s m args below meth c s₁ X0 hexec hbytes hml hret hlk hnm hown hh0 W hP
  obtain ⟨rfl, hA, tA, hB, tB⟩ := hP
  have a31 := hA.2.2.2
  have b31 := hB.2.2.2
  have hA0 := hA.mv X0.warmed.alike hh0
  have hB0 := hB.mv X0.warmed.alike hh0
  have c1 : Steps p.tables e below (s₁.setTop (entryFrame m #[.ref a, .ref b] 3)) (s₁.setTop (mkF m 0 #[.val (.ref a), .val (.ref b), .unset] [])) := entry rfl
  have c2 : Steps p.tables e below (s₁.setTop (entryFrame m #[.ref a, .ref b] 3)) (s₁.setTop (mkF m 4 #[.val (.ref a), .val (.ref b), .unset] [.int (Int32.ofNat B.slots.size), .int (Int32.ofNat A.slots.size)])) := c1.trans (by
    refine XS.aloadN X0.here hexec rfl (hb hbytes d0) rfl rfl ?_
    refine X0.alen hexec hA0 rfl rfl (hb hbytes d1) ?_
    refine XS.aloadN X0.here hexec rfl (hb hbytes d2) rfl rfl ?_
    refine X0.alen hexec hB0 rfl rfl (hb hbytes d3) ?_
    exact Steps.refl _)
  by_cases hs : A.slots.size = B.slots.size
  · have c3 : Steps p.tables e below (s₁.setTop (entryFrame m #[.ref a, .ref b] 3)) (s₁.setTop (mkF m 9 #[.val (.ref a), .val (.ref b), .val (.int 0)] [])) := c2.trans (by
      refine XS.icmpNo X0.here hexec rfl (hb hbytes d4) rfl (ii_ne_f (by rw [hs])) ?_
      refine iconstV X0.here hexec rfl 0 (hb hbytes d7) (by decide) ?_
      refine XS.istoreN X0.here hexec rfl (hb hbytes d8) rfl rfl ?_
      exact Steps.refl _)
    have loop : ∀ (r i : Nat), i + r = A.slots.size → (∀ j, j < i → yv A j = yv B j) → Steps p.tables e below (s₁.setTop (entryFrame m #[.ref a, .ref b] 3)) (s₁.setTop (mkF m 9 #[.val (.ref a), .val (.ref b), .val (.int (Int32.ofNat i))] [])) → ∃ (pc : Nat) (Ls : Array Slot) (v : Int32), (pc = 25 ∨ pc = 33) ∧ ((v = 1 ∧ EqC A B) ∨ (v = 0 ∧ ¬ EqC A B)) ∧ Steps p.tables e below (s₁.setTop (entryFrame m #[.ref a, .ref b] 3)) (s₁.setTop (mkF m pc Ls [.int v])) := by
      intro r
      induction r with
      | zero =>
        intro i hi he cl
        exact ⟨33, _, 1, Or.inr rfl, Or.inl ⟨rfl, hs, fun j hj => he j (by omega)⟩, cl.trans (by
          refine XS.iloadN X0.here hexec rfl (hb hbytes d9) rfl ?_
          refine XS.aloadN X0.here hexec rfl (hb hbytes d10) rfl rfl ?_
          refine X0.alen hexec hA0 rfl rfl (hb hbytes d11) ?_
          refine XS.icmpYes X0.here hexec rfl (pc0 := 12) rfl (hb hbytes d12) rfl (ii_ge_t (nlt32 (by omega) (by omega))) (by decide) rfl ?_
          refine iconstV X0.here hexec rfl 1 (hb hbytes d32) (by decide) ?_
          exact Steps.refl _)⟩
      | succ r ih =>
        intro i hi he cl
        have c4 : Steps p.tables e below (s₁.setTop (entryFrame m #[.ref a, .ref b] 3)) (s₁.setTop (mkF m 21 #[.val (.ref a), .val (.ref b), .val (.int (Int32.ofNat i))] [.int (yv B i), .int (yv A i)])) := cl.trans (by
          refine XS.iloadN X0.here hexec rfl (hb hbytes d9) rfl ?_
          refine XS.aloadN X0.here hexec rfl (hb hbytes d10) rfl rfl ?_
          refine X0.alen hexec hA0 rfl rfl (hb hbytes d11) ?_
          refine XS.icmpNo X0.here hexec rfl (hb hbytes d12) rfl (ii_ge_f (lt32 (by omega) (by omega))) ?_
          refine XS.aloadN X0.here hexec rfl (hb hbytes d15) rfl rfl ?_
          refine XS.iloadN X0.here hexec rfl (hb hbytes d16) rfl ?_
          refine X0.aget hexec hA0 rfl (yv_get hA tA (i := i) (by omega)) rfl rfl (hb hbytes d17) ?_
          refine XS.aloadN X0.here hexec rfl (hb hbytes d18) rfl rfl ?_
          refine XS.iloadN X0.here hexec rfl (hb hbytes d19) rfl ?_
          refine X0.aget hexec hB0 rfl (yv_get hB tB (i := i) (by omega)) rfl rfl (hb hbytes d20) ?_
          exact Steps.refl _)
        by_cases hv : yv A i = yv B i
        · have c5 : Steps p.tables e below (s₁.setTop (entryFrame m #[.ref a, .ref b] 3)) (s₁.setTop (mkF m 9 #[.val (.ref a), .val (.ref b), .val (.int (Int32.ofNat i + 1))] [])) := c4.trans (by
            refine XS.icmpYes X0.here hexec rfl (pc0 := 21) rfl (hb hbytes d21) rfl (ii_eq_t hv) (by decide) rfl ?_
            refine iincV X0.here hexec rfl 1 (hb hbytes d26) (by decide) rfl rfl ?_
            refine XS.goto X0.here hexec rfl (pc0 := 29) rfl (hb hbytes d29) (by decide) rfl ?_
            exact Steps.refl _)
          rw [succ32] at c5
          exact ih (i + 1) (by omega) (fun j hj => by
            by_cases e : j = i
            · rw [e]; exact hv
            · exact he j (by omega)) c5
        · exact ⟨25, _, 0, Or.inl rfl, Or.inr ⟨rfl, fun q => hv (q.2 i (by omega))⟩, c4.trans (by
            refine XS.icmpNo X0.here hexec rfl (hb hbytes d21) rfl (ii_eq_f hv) ?_
            refine iconstV X0.here hexec rfl 0 (hb hbytes d24) (by decide) ?_
            exact Steps.refl _)⟩
    obtain ⟨pc, Ls, v, hpc, hv, cz⟩ := loop A.slots.size 0 (by omega) (fun j hj => absurd hj (Nat.not_lt_zero j)) c3
    have nv : narrow .boolean (.int v) = .int v := by rcases hv with ⟨rfl, -⟩ | ⟨rfl, -⟩ <;> rfl
    rcases hpc with rfl | rfl
    · exact ⟨s₁, some (.int v), _, _, _, X0, rfl, rfl, rfl, (fun h => by cases h), ⟨v, rfl, hh0, hv⟩, fun fs hl => cz.trans (X0.ireturnOut hexec hret nv (Or.inr (Or.inl rfl)) (hb hbytes d25) hl)⟩
    · exact ⟨s₁, some (.int v), _, _, _, X0, rfl, rfl, rfl, (fun h => by cases h), ⟨v, rfl, hh0, hv⟩, fun fs hl => cz.trans (X0.ireturnOut hexec hret nv (Or.inr (Or.inl rfl)) (hb hbytes d33) hl)⟩
  · have c3 : Steps p.tables e below (s₁.setTop (entryFrame m #[.ref a, .ref b] 3)) (s₁.setTop (mkF m 35 #[.val (.ref a), .val (.ref b), .unset] [.int 0])) := c2.trans (by
      refine XS.icmpYes X0.here hexec rfl (pc0 := 4) rfl (hb hbytes d4) rfl (ii_ne_t (ne32 a31 b31 hs)) (by decide) rfl ?_
      refine iconstV X0.here hexec rfl 0 (hb hbytes d34) (by decide) ?_
      exact Steps.refl _)
    exact ⟨s₁, some (.int 0), _, _, _, X0, rfl, rfl, rfl, (fun h => by cases h), ⟨0, rfl, hh0, Or.inr ⟨rfl, fun q => hs q.1⟩⟩, fun fs hl => c3.trans (X0.ireturnOut hexec hret rfl (Or.inr (Or.inl rfl)) (hb hbytes d35) hl)⟩
end LEq
theorem Cod.ty {cd : Int32} {n : Nat} {f : Nat → Int32} {V : Cell} (h : Cod cd n f V) : Typed .byte V := fun i v hv => by
  have hi : i < V.slots.size := (Array.getElem?_eq_some_iff.mp hv).1
  rcases h with ⟨-, k1, k2⟩ | ⟨-, k1, k2, -⟩
  · rw [(k2 i (by omega)).1] at hv; cases hv; exact fits_lo8 _
  · rcases Nat.mod_two_eq_zero_or_one i with e | e
    · obtain ⟨j, rfl⟩ : ∃ j, i = 2 * j := ⟨i / 2, by omega⟩
      rw [(k2 j (by omega)).1] at hv; cases hv; exact fits_lo8 _
    · obtain ⟨j, rfl⟩ : ∃ j, i = 2 * j + 1 := ⟨i / 2, by omega⟩
      rw [(k2 j (by omega)).2] at hv; cases hv; exact fits_lo8 _
/-- the same text -/
def SameT (n : Nat) (f : Nat → Int32) (k : Nat) (g : Nat → Int32) : Prop := n = k ∧ ∀ j, j < n → f j = g j
theorem lo8_inj {x y : Int32} (h0 : ¬ x < 0) (h1 : ¬ 255 < x) (k0 : ¬ y < 0) (k1 : ¬ 255 < y) (h : lo8 x = lo8 y) : x = y := by
  rw [← lo8_mask h0 h1, ← lo8_mask k0 k1, h]
/-- arrays coded by one coder are equal just where the texts are -/
theorem Cod.eqv {cd : Int32} {n k : Nat} {f g : Nat → Int32} {V V' : Cell} (h : Cod cd n f V) (h' : Cod cd k g V') (hf : ∀ j, j < n → ¬ f j < 0 ∧ ¬ 65535 < f j) (hg : ∀ j, j < k → ¬ g j < 0 ∧ ¬ 65535 < g j) : EqC V V' ↔ SameT n f k g := by
  have yvv : ∀ {W : Cell} {i : Nat} {x : Int32}, W.slots[i]? = some (.int x) → yv W i = x := fun q => by unfold yv; rw [q]
  rcases h with ⟨rfl, k1, k2⟩ | ⟨rfl, k1, k2, -⟩
  · rcases h' with ⟨-, m1, m2⟩ | ⟨e, -⟩
    · constructor
      · rintro ⟨e1, e2⟩
        refine ⟨by omega, fun j hj => ?_⟩
        have q := e2 j (by omega)
        rw [yvv (k2 j hj).1, yvv (m2 j (by omega)).1] at q
        exact lo8_inj (hf j hj).1 (k2 j hj).2 (hg j (by omega)).1 (m2 j (by omega)).2 q
      · rintro ⟨rfl, e2⟩
        refine ⟨by omega, fun j hj => ?_⟩
        rw [yvv (k2 j (by omega)).1, yvv (m2 j (by omega)).1, e2 j (by omega)]
    · exact absurd e (by decide)
  · rcases h' with ⟨e, -⟩ | ⟨-, m1, m2, -⟩
    · exact absurd e (by decide)
    · constructor
      · rintro ⟨e1, e2⟩
        refine ⟨by omega, fun j hj => ?_⟩
        have q1 := e2 (2 * j) (by omega)
        have q2 := e2 (2 * j + 1) (by omega)
        rw [yvv (k2 j hj).1, yvv (m2 j (by omega)).1] at q1
        rw [yvv (k2 j hj).2, yvv (m2 j (by omega)).2] at q2
        rw [← pair_says (hf j hj).1 (hf j hj).2, ← pair_says (hg j (by omega)).1 (hg j (by omega)).2, q1, q2]
      · rintro ⟨rfl, e2⟩
        refine ⟨by omega, fun i hi => ?_⟩
        rcases Nat.mod_two_eq_zero_or_one i with e | e
        · obtain ⟨j, rfl⟩ : ∃ j, i = 2 * j := ⟨i / 2, by omega⟩
          rw [yvv (k2 j (by omega)).1, yvv (m2 j (by omega)).1, e2 j (by omega)]
        · obtain ⟨j, rfl⟩ : ∃ j, i = 2 * j + 1 := ⟨i / 2, by omega⟩
          rw [yvv (k2 j (by omega)).2, yvv (m2 j (by omega)).2, e2 j (by omega)]
/-- two codings differ: so do the texts -/
theorem Cod.dif {cd cd' : Int32} {n k : Nat} {f g : Nat → Int32} {V V' : Cell} (h : Cod cd n f V) (h' : Cod cd' k g V') (hne : ¬ cd = cd') : ¬ SameT n f k g := by
  rintro ⟨rfl, e⟩
  rcases h with ⟨rfl, -, k2⟩ | ⟨rfl, -, -, j, hj, hw⟩
  · rcases h' with ⟨rfl, -⟩ | ⟨-, -, -, j, hj, hw⟩
    · exact hne rfl
    · exact (k2 j hj).2 (by rw [e j hj]; exact hw)
  · rcases h' with ⟨-, -, m2⟩ | ⟨rfl, -⟩
    · exact (m2 j hj).2 (by rw [← e j hj]; exact hw)
    · exact hne rfl
/-- an object of exactly C is an instance of C -/
theorem cinst {p : Program} {l : Launch} {e : Env} {R : Room} {s : State} {m : MethodId} {args : Array Value} {below : List Frame} {meth : Method} {c : Code} {T : State} {locs : List Loc} {cells slots : Nat} (X : Stand p l e R s m args below meth c T locs cells slots) (hexec : p.tables.exec = Jvm.exec) {own C : String} {index : Nat} (hown : s.vm.findClass own = some m.cls) (hlink : (Cond.classLink own index C).before args s = true) {a : Addr} (hE : Exact C a T)
    {g : JFrame} (hg : g.method = m) {rest : List Value} (hstack : g.stack = .ref a :: rest) (hdg : decode c.code g.pc = .ok (.instanceof index, 3)) :
    ∃ T', Stand p l e R s m args below meth c T' locs cells slots ∧ T'.heap = T.heap ∧ ∀ target, Steps p.tables e below (T'.setTop { g with pc := g.pc + 3, stack := .int 1 :: rest }) target → Steps p.tables e below (T.setTop g) target := by
  obtain ⟨cB, h1, D, h2, h3, h4⟩ := hE
  have h1' : s.vm.findClass C = some cB := by rw [← X.warmed.alike.findClass]; exact h1
  obtain ⟨vm', X', st⟩ := X.instanceofYes hexec hown hlink h2 h4 h1' (by rw [h3]; exact Jvm.Free.SB.assignable_self _ _) hg hstack hdg
  exact ⟨_, X', rfl, st⟩
theorem cself {p : Program} {l : Launch} {e : Env} {R : Room} {s : State} {m : MethodId} {args : Array Value} {below : List Frame} {meth : Method} {c : Code} {T : State} {locs : List Loc} {cells slots : Nat} (X : Stand p l e R s m args below meth c T locs cells slots) (hexec : p.tables.exec = Jvm.exec) {own C : String} {index : Nat} (hown : s.vm.findClass own = some m.cls) (hlink : (Cond.classLink own index C).before args s = true) {a : Addr} (hE : Exact C a T)
    {g : JFrame} (hg : g.method = m) {rest : List Value} (hstack : g.stack = .ref a :: rest) (hdg : decode c.code g.pc = .ok (.checkcast index, 3)) :
    ∃ T', Stand p l e R s m args below meth c T' locs cells slots ∧ T'.heap = T.heap ∧ ∀ target, Steps p.tables e below (T'.setTop { g with pc := g.pc + 3, stack := .ref a :: rest }) target → Steps p.tables e below (T.setTop g) target := by
  obtain ⟨cB, h1, D, h2, h3, h4⟩ := hE
  have h1' : s.vm.findClass C = some cB := by rw [← X.warmed.alike.findClass]; exact h1
  obtain ⟨vm', X', st⟩ := X.checkcastYes hexec hown hlink h2 h4 h1' (by rw [h3]; exact Jvm.Free.SB.assignable_self _ _) hg hstack hdg
  exact ⟨_, X', rfl, fun t h => st t (by rw [← hstack] at h; exact h)⟩
namespace SEq
def yN : MethodName := ⟨"java/lang/String", "equals", "(Ljava/lang/Object;)Z"⟩
abbrev yB : ByteArray := jdk_42_method_66_code
theorem d0 : decode yB 0 = .ok (.aload_n 0, 1) := by decide +kernel
theorem d1 : decode yB 1 = .ok (.aload_n 1, 1) := by decide +kernel
theorem d2 : decode yB 2 = .ok (.if_acmp (.ne) 5, 3) := by decide +kernel
theorem d5 : decode yB 5 = .ok (.iconst 1, 1) := by decide +kernel
theorem d6 : decode yB 6 = .ok (.ireturn, 1) := by decide +kernel
theorem d7 : decode yB 7 = .ok (.aload_n 1, 1) := by decide +kernel
theorem d8 : decode yB 8 = .ok (.instanceof 10, 3) := by decide +kernel
theorem d11 : decode yB 11 = .ok (.ifCond (.eq) 43, 3) := by decide +kernel
theorem d14 : decode yB 14 = .ok (.aload_n 1, 1) := by decide +kernel
theorem d15 : decode yB 15 = .ok (.checkcast 10, 3) := by decide +kernel
theorem d18 : decode yB 18 = .ok (.astore_n 2, 1) := by decide +kernel
theorem d19 : decode yB 19 = .ok (.getstatic 38, 3) := by decide +kernel
theorem d22 : decode yB 22 = .ok (.ifCond (.eq) 14, 3) := by decide +kernel
theorem d25 : decode yB 25 = .ok (.aload_n 0, 1) := by decide +kernel
theorem d26 : decode yB 26 = .ok (.getfield 15, 3) := by decide +kernel
theorem d29 : decode yB 29 = .ok (.aload_n 2, 1) := by decide +kernel
theorem d30 : decode yB 30 = .ok (.getfield 15, 3) := by decide +kernel
theorem d33 : decode yB 33 = .ok (.if_icmp (.ne) 21, 3) := by decide +kernel
theorem d36 : decode yB 36 = .ok (.aload_n 0, 1) := by decide +kernel
theorem d37 : decode yB 37 = .ok (.getfield 9, 3) := by decide +kernel
theorem d40 : decode yB 40 = .ok (.aload_n 2, 1) := by decide +kernel
theorem d41 : decode yB 41 = .ok (.getfield 9, 3) := by decide +kernel
theorem d44 : decode yB 44 = .ok (.invokestatic 541, 3) := by decide +kernel
theorem d47 : decode yB 47 = .ok (.ifCond (.eq) 7, 3) := by decide +kernel
theorem d50 : decode yB 50 = .ok (.iconst 1, 1) := by decide +kernel
theorem d51 : decode yB 51 = .ok (.goto 4, 3) := by decide +kernel
theorem d54 : decode yB 54 = .ok (.iconst 0, 1) := by decide +kernel
theorem d55 : decode yB 55 = .ok (.ireturn, 1) := by decide +kernel
def site : List Cond := [.classLink "java/lang/String" 10 "java/lang/String", .fieldLink "java/lang/String" 38 "java/lang/String" "COMPACT_STRINGS" "Z", .fieldLink "java/lang/String" 15 "java/lang/String" "coder" "B", .fieldLink "java/lang/String" 9 "java/lang/String" "value" "[B", LEq.tab] ++ staticW "java/lang/String" 541 LEq.yN
def tab : Cond := tabOf yN yB 3 (some .boolean) site
def P (x t : Addr) (V : Cell) (cd : Int32) (n : Nat) (f : Nat → Int32) (y t' : Addr) (V' : Cell) (cd' : Int32) (k : Nat) (g : Nat → Int32) (z : Int32) (args : Array Value) (s : State) : Prop := args = #[.ref x, .ref y] ∧ Txt x t V cd n f s ∧ Txt y t' V' cd' k g s ∧ StaticIs s "java/lang/String" "COMPACT_STRINGS" "Z" (.int z) ∧ ¬ z = 0
/-- equals(Object) of two Strings: whether the texts are the same -/
theorem law (l : Launch) (x t : Addr) (V : Cell) (cd : Int32) (n : Nat) (f : Nat → Int32) (y t' : Addr) (V' : Cell) (cd' : Int32) (k : Nat) (g : Nat → Int32) (z : Int32) : Law l yN 2 1 1 14 yB 3 (some .boolean) site (P x t V cd n f y t' V' cd' k g z) (Says01 (SameT n f k g)) [] 0 0 := by
  refine Law.of_walk (plainFor_of_name (by decide +kernel)) (by decide +kernel) (by decide +kernel) (by decide) (fun _ _ h => by rw [h.1]; rfl) (fun _ U U' hal hh h => ⟨h.1, h.2.1.mv hal hh, h.2.2.1.mv hal hh, h.2.2.2.1.there hal hh, h.2.2.2.2⟩) (fun r U U' V V' h1 hal h2 h => Says01.mv r U U' V V' h1 hal h2 h) ?_
  intro p e s m args below meth c s₁ X0 hexec hbytes hml hret hlk hnm hown hh0 W hP
  obtain ⟨rfl, hx, hy, s1, hz⟩ := hP
  have c1 : Steps p.tables e below (s₁.setTop (entryFrame m #[.ref x, .ref y] 3)) (s₁.setTop (mkF m 2 #[.val (.ref x), .val (.ref y), .unset] [.ref y, .ref x])) := Steps.trans (entry rfl) (by
    show Steps p.tables e below (s₁.setTop (mkF m 0 #[.val (.ref x), .val (.ref y), .unset] [])) _
    refine XS.aloadN X0.here hexec rfl (hb hbytes d0) rfl rfl ?_
    refine XS.aloadN X0.here hexec rfl (hb hbytes d1) rfl rfl ?_
    exact Steps.refl _)
  by_cases hxy : x = y
  · have c2 : Steps p.tables e below (s₁.setTop (entryFrame m #[.ref x, .ref y] 3)) (s₁.setTop (mkF m 6 #[.val (.ref x), .val (.ref y), .unset] [.int 1])) := c1.trans (by
      refine acmpNo X0.here hexec rfl (hb hbytes d2) rfl rfl rfl (by simp [acmp, hxy]) ?_
      refine iconstV X0.here hexec rfl 1 (hb hbytes d5) (by decide) ?_
      exact Steps.refl _)
    subst hxy
    have ec : cd = cd' := by
      obtain ⟨D, fd, a1, a2, a3⟩ := hx.2.2.1
      obtain ⟨D', fd', b1, b2, b3⟩ := hy.2.2.1
      cases a1.symm.trans b1
      obtain ⟨q1, q2, q3, q4⟩ := a2.1
      obtain ⟨r1, r2, r3, r4⟩ := b2.1
      cases q4.symm.trans r4
      cases a3.symm.trans b3; rfl
    have et : t = t' := by
      obtain ⟨D, fd, a1, a2, a3⟩ := hx.2.1
      obtain ⟨D', fd', b1, b2, b3⟩ := hy.2.1
      cases a1.symm.trans b1
      obtain ⟨q1, q2, q3, q4⟩ := a2.1
      obtain ⟨r1, r2, r3, r4⟩ := b2.1
      cases q4.symm.trans r4
      cases a3.symm.trans b3; rfl
    subst ec et
    have ev : V = V' := by cases hx.2.2.2.1.1.symm.trans hy.2.2.2.1.1; rfl
    subst ev
    have hs : SameT n f k g := (Cod.eqv hx.2.2.2.2.1 hy.2.2.2.2.1 hx.2.2.2.2.2 hy.2.2.2.2.2).mp ⟨rfl, fun _ _ => rfl⟩
    exact ⟨s₁, some (.int 1), _, _, _, X0, rfl, rfl, rfl, (fun h => by cases h), ⟨1, rfl, hh0, Or.inl ⟨rfl, hs⟩⟩, fun fs hl => c2.trans (X0.ireturnOut hexec hret rfl (Or.inr (Or.inl rfl)) (hb hbytes d6) hl)⟩
  · have c2 : Steps p.tables e below (s₁.setTop (entryFrame m #[.ref x, .ref y] 3)) (s₁.setTop (mkF m 8 #[.val (.ref x), .val (.ref y), .unset] [.ref y])) := c1.trans (by
      refine acmpYes X0.here hexec rfl (pc0 := 2) rfl (hb hbytes d2) rfl rfl rfl (by simp [acmp, hxy]) (by decide) rfl ?_
      refine XS.aloadN X0.here hexec rfl (hb hbytes d7) rfl rfl ?_
      exact Steps.refl _)
    obtain ⟨T3, X3, q3, st3⟩ := cinst X0 hexec hown (wk W (.classLink "java/lang/String" 10 "java/lang/String")) (hy.mv X0.warmed.alike hh0).1 (g := (mkF m 8 #[.val (.ref x), .val (.ref y), .unset] [.ref y])) rfl (rest := []) rfl (hb hbytes d8)
    have hh3 := q3.trans hh0
    have c4 : Steps p.tables e below (s₁.setTop (entryFrame m #[.ref x, .ref y] 3)) (T3.setTop (mkF m 15 #[.val (.ref x), .val (.ref y), .unset] [.ref y])) := (c2.trans (st3 _ (Steps.refl _))).trans (by
      refine XS.ifNo X3.here hexec rfl (hb hbytes d11) rfl (i0_eq_f (by decide)) ?_
      refine XS.aloadN X3.here hexec rfl (hb hbytes d14) rfl rfl ?_
      exact Steps.refl _)
    obtain ⟨T5, X5, q5, st5⟩ := cself X3 hexec hown (wk W (.classLink "java/lang/String" 10 "java/lang/String")) (hy.mv X3.warmed.alike hh3).1 (g := (mkF m 15 #[.val (.ref x), .val (.ref y), .unset] [.ref y])) rfl (rest := []) rfl (hb hbytes d15)
    have hh5 := q5.trans hh3
    have c6 : Steps p.tables e below (s₁.setTop (entryFrame m #[.ref x, .ref y] 3)) (T5.setTop (mkF m 19 #[.val (.ref x), .val (.ref y), .val (.ref y)] [])) := (c4.trans (st5 _ (Steps.refl _))).trans (by
      refine XS.astoreN X5.here hexec rfl (hb hbytes d18) rfl rfl rfl ?_
      exact Steps.refl _)
    obtain ⟨T7, X7, q7, st7⟩ := X5.sget hexec hown (wk W (.fieldLink "java/lang/String" 38 "java/lang/String" "COMPACT_STRINGS" "Z")) s1 (fun _ _ h => by rw [hh5]; exact h) (g := (mkF m 19 #[.val (.ref x), .val (.ref y), .val (.ref y)] [])) rfl (hb hbytes d19)
    have hh7 := q7.trans hh5
    have c8 : Steps p.tables e below (s₁.setTop (entryFrame m #[.ref x, .ref y] 3)) (T7.setTop (mkF m 26 #[.val (.ref x), .val (.ref y), .val (.ref y)] [.ref x])) := (c6.trans (st7 _ (Steps.refl _))).trans (by
      refine XS.ifNo X7.here hexec rfl (hb hbytes d22) rfl (i0_eq_f hz) ?_
      refine XS.aloadN X7.here hexec rfl (hb hbytes d25) rfl rfl ?_
      exact Steps.refl _)
    obtain ⟨T9, X9, q9, st9⟩ := X7.hget hexec hown (wk W (.fieldLink "java/lang/String" 15 "java/lang/String" "coder" "B")) (hx.mv X7.warmed.alike hh7).2.2.1 (g := (mkF m 26 #[.val (.ref x), .val (.ref y), .val (.ref y)] [.ref x])) rfl (rest := []) rfl (hb hbytes d26)
    have hh9 := q9.trans hh7
    have c10 : Steps p.tables e below (s₁.setTop (entryFrame m #[.ref x, .ref y] 3)) (T9.setTop (mkF m 30 #[.val (.ref x), .val (.ref y), .val (.ref y)] [.ref y, .int cd])) := (c8.trans (st9 _ (Steps.refl _))).trans (by
      refine XS.aloadN X9.here hexec rfl (hb hbytes d29) rfl rfl ?_
      exact Steps.refl _)
    obtain ⟨T11, X11, q11, st11⟩ := X9.hget hexec hown (wk W (.fieldLink "java/lang/String" 15 "java/lang/String" "coder" "B")) (hy.mv X9.warmed.alike hh9).2.2.1 (g := (mkF m 30 #[.val (.ref x), .val (.ref y), .val (.ref y)] [.ref y, .int cd])) rfl (rest := [.int cd]) rfl (hb hbytes d30)
    have hh11 := q11.trans hh9
    have c12 : Steps p.tables e below (s₁.setTop (entryFrame m #[.ref x, .ref y] 3)) (T11.setTop (mkF m 33 #[.val (.ref x), .val (.ref y), .val (.ref y)] [.int cd', .int cd])) := c10.trans (st11 _ (Steps.refl _))
    by_cases hcd : cd = cd'
    · subst hcd
      have c13 : Steps p.tables e below (s₁.setTop (entryFrame m #[.ref x, .ref y] 3)) (T11.setTop (mkF m 37 #[.val (.ref x), .val (.ref y), .val (.ref y)] [.ref x])) := c12.trans (by
        refine XS.icmpNo X11.here hexec rfl (hb hbytes d33) rfl (ii_ne_f rfl) ?_
        refine XS.aloadN X11.here hexec rfl (hb hbytes d36) rfl rfl ?_
        exact Steps.refl _)
      obtain ⟨T14, X14, q14, st14⟩ := X11.hget hexec hown (wk W (.fieldLink "java/lang/String" 9 "java/lang/String" "value" "[B")) (hx.mv X11.warmed.alike hh11).2.1 (g := (mkF m 37 #[.val (.ref x), .val (.ref y), .val (.ref y)] [.ref x])) rfl (rest := []) rfl (hb hbytes d37)
      have hh14 := q14.trans hh11
      have c15 : Steps p.tables e below (s₁.setTop (entryFrame m #[.ref x, .ref y] 3)) (T14.setTop (mkF m 41 #[.val (.ref x), .val (.ref y), .val (.ref y)] [.ref y, .ref t])) := (c13.trans (st14 _ (Steps.refl _))).trans (by
        refine XS.aloadN X14.here hexec rfl (hb hbytes d40) rfl rfl ?_
        exact Steps.refl _)
      obtain ⟨T16, X16, q16, st16⟩ := X14.hget hexec hown (wk W (.fieldLink "java/lang/String" 9 "java/lang/String" "value" "[B")) (hy.mv X14.warmed.alike hh14).2.1 (g := (mkF m 41 #[.val (.ref x), .val (.ref y), .val (.ref y)] [.ref y, .ref t])) rfl (rest := [.ref t]) rfl (hb hbytes d41)
      have hh16 := q16.trans hh14
      have c17 : Steps p.tables e below (s₁.setTop (entryFrame m #[.ref x, .ref y] 3)) (T16.setTop (mkF m 44 #[.val (.ref x), .val (.ref y), .val (.ref y)] [.ref t', .ref t])) := c15.trans (st16 _ (Steps.refl _))
      obtain ⟨v18, T18, X18, E18, g18⟩ := X16.callS hexec (LEq.law l t V t' V') hown (wks W (staticW "java/lang/String" 541 LEq.yN)) (wk W LEq.tab) (W := 0) (Nat.le_of_ble_eq_true rfl) (Nat.le_of_ble_eq_true rfl) (Nat.le_refl _) (Nat.le_refl _) (g := (mkF m 44 #[.val (.ref x), .val (.ref y), .val (.ref y)] [.ref t', .ref t])) rfl (by rw [hml]; rfl) c17 (argsL := [.ref t, .ref t']) (rest := []) rfl rfl (by show 2 * 0 + 0 ≤ _; decide) (hb hbytes d44) (⟨rfl, hx.2.2.2.1.mv X16.warmed.alike hh16, hx.2.2.2.2.1.ty, hy.2.2.2.1.mv X16.warmed.alike hh16, hy.2.2.2.2.1.ty⟩)
      obtain ⟨v, rfl, q18, hv⟩ := E18
      have iff := Cod.eqv hx.2.2.2.2.1 hy.2.2.2.2.1 hx.2.2.2.2.2 hy.2.2.2.2.2
      rcases hv with ⟨rfl, he⟩ | ⟨rfl, he⟩
      · have c19 : Steps p.tables e below (s₁.setTop (entryFrame m #[.ref x, .ref y] 3)) (T18.setTop (mkF m 55 #[.val (.ref x), .val (.ref y), .val (.ref y)] [.int 1])) := Steps.trans g18 (by
          refine XS.ifNo X18.here hexec rfl (hb hbytes d47) rfl (i0_eq_f (by decide)) ?_
          refine iconstV X18.here hexec rfl 1 (hb hbytes d50) (by decide) ?_
          refine XS.goto X18.here hexec rfl (pc0 := 51) rfl (hb hbytes d51) (by decide) rfl ?_
          exact Steps.refl _)
        exact ⟨T18, some (.int 1), _, _, _, X18, rfl, rfl, rfl, (fun h => by cases h), ⟨1, rfl, q18.trans hh16, Or.inl ⟨rfl, iff.mp he⟩⟩, fun fs hl => c19.trans (X18.ireturnOut hexec hret rfl (Or.inr (Or.inl rfl)) (hb hbytes d55) hl)⟩
      · have c19 : Steps p.tables e below (s₁.setTop (entryFrame m #[.ref x, .ref y] 3)) (T18.setTop (mkF m 55 #[.val (.ref x), .val (.ref y), .val (.ref y)] [.int 0])) := Steps.trans g18 (by
          refine XS.ifYes X18.here hexec rfl (pc0 := 47) rfl (hb hbytes d47) rfl (i0_eq_t rfl) (by decide) rfl ?_
          refine iconstV X18.here hexec rfl 0 (hb hbytes d54) (by decide) ?_
          exact Steps.refl _)
        exact ⟨T18, some (.int 0), _, _, _, X18, rfl, rfl, rfl, (fun h => by cases h), ⟨0, rfl, q18.trans hh16, Or.inr ⟨rfl, fun q => he (iff.mpr q)⟩⟩, fun fs hl => c19.trans (X18.ireturnOut hexec hret rfl (Or.inr (Or.inl rfl)) (hb hbytes d55) hl)⟩
    · have c13 : Steps p.tables e below (s₁.setTop (entryFrame m #[.ref x, .ref y] 3)) (T11.setTop (mkF m 55 #[.val (.ref x), .val (.ref y), .val (.ref y)] [.int 0])) := c12.trans (by
        refine XS.icmpYes X11.here hexec rfl (pc0 := 33) rfl (hb hbytes d33) rfl (ii_ne_t hcd) (by decide) rfl ?_
        refine iconstV X11.here hexec rfl 0 (hb hbytes d54) (by decide) ?_
        exact Steps.refl _)
      exact ⟨T11, some (.int 0), _, _, _, X11, rfl, rfl, rfl, (fun h => by cases h), ⟨0, rfl, hh11, Or.inr ⟨rfl, Cod.dif hx.2.2.2.2.1 hy.2.2.2.2.1 hcd⟩⟩, fun fs hl => c13.trans (X11.ireturnOut hexec hret rfl (Or.inr (Or.inl rfl)) (hb hbytes d55) hl)⟩
theorem pays {l : Launch} {R : Room} {p : Program} {e : Env} {below : List Frame} {s : State} {sargs : Array Value} {len W : Nat} (x t : Addr) (V : Cell) (cd : Int32) (n : Nat) (f : Nat → Int32) (y t' : Addr) (V' : Cell) (cd' : Int32) (k : Nat) (g : Nat → Int32) (z : Int32) (htab : tab.before sargs s = true) (hfr : 2 ≤ R.frames) (hlo : W + 28 ≤ R.locals) :
    Back l R p e below s sargs yN len W (fun A₁ a₁ => A₁.cells + 0 ≤ R.cells ∧ A₁.slots + 0 ≤ R.slots ∧ P x t V cd n f y t' V' cd' k g z a₁ A₁.U) (fun A₁ _ v₁ B₁ => Says01 (SameT n f k g) v₁ A₁.U B₁.U ∧ B₁.locs = A₁.locs ++ [] ∧ B₁.cells = A₁.cells + 0 ∧ B₁.slots = A₁.slots + 0) :=
  (law l x t V cd n f y t' V' cd' k g z).pays htab hfr (by omega)
end SEq
end StrChars
namespace StrChars.Road
open Jvm Sem ClassFile Op Lib Jvm.Stand Jvm.Free Jvm.Free.XT
open Jvm.Lib.Cold (StaticIs)
/-- the words of String.equals(Object) -/
abbrev wordsEq : List Jvm.Cond := [.code SEq.yN SEq.yB 3 (some .boolean), .initialized ST, .classLink ST 10 ST, .fieldLink ST 38 ST "COMPACT_STRINGS" "Z", .fieldLink ST 15 ST "coder" "B", .fieldLink ST 9 ST "value" "[B", .methodLink ST 541 LEq.yN, .static LEq.yN, .code LEq.yN LEq.yB 3 (some .boolean), .initialized "java/lang/StringLatin1"]
theorem tabEq_of {a : Array Value} {s : State} (h : ∀ w ∈ wordsEq, w.before a s = true) : SEq.tab.before a s = true := by
  have hl : LEq.tab.before a s = true := unparts (wk h (.code LEq.yN LEq.yB 3 (some .boolean))) (wks h (.initialized LEq.yN.cls :: LEq.site))
  have q := consq hl h
  exact unparts (wk q (.code SEq.yN SEq.yB 3 (some .boolean))) (wks q (.initialized SEq.yN.cls :: SEq.site))
theorem movedEq {Z s : State} {a0 args : Array Value} (hZ : Z.Warmed39 s.vm) (hw : ∀ d ∈ wordsEq, d.before a0 Z = true) : ∀ d ∈ wordsEq, d.before args s = true := fun d hd => by
  have t : ∀ d ∈ wordsEq, (d.onTables && d.keepsFace) = true := by decide +kernel
  exact RoadKit.mv hZ (hw d hd) (t d hd)
/-- the road's facts of a String, as the laws ask it -/
theorem txt_of {Z U : State} {a0 : Array Value} {kI : Nat} (wi : (Jvm.Cond.instantiable ST kI).before a0 Z = true) (al : Z.vm.Alike U.vm) {x t : Addr} {kb : ClassId} {cs : List Int32} {cd N2 : Int32} {vs : List Value} (E : RoadKit.Exa Z U.heap x ST) (V : RoadKit.Fld Z U.heap x ST "value" "[B" (.ref t)) (C : RoadKit.Fld Z U.heap x ST "coder" "B" (.int cd)) (K : RoadKit.Arv Z U.heap t kb .byte N2 vs (.int 0)) (hc : CodA cs cd N2 vs) (hb : ∀ c ∈ cs, ¬ c < 0 ∧ ¬ (65535 : Int32) < c) (l2 : cs.length ≤ 4000) :
    ∃ A, Txt x t A cd cs.length (fun j => cs.getD j 0) U := by
  obtain ⟨A, K1, K2, K3, K4, K5, K6⟩ := K
  have hcod := hc.cod (by omega) K3 K5
  obtain ⟨D, fV, fC, hB, F1, F2, g1, g2, -, -⟩ := strObj wi al E V C
  exact ⟨A, ⟨_, hB.2.2.1, D, hB.1, rfl, by cases q : D.vm <;> first | rfl | exact absurd q (hB.2.1.2 _)⟩, Has.of hB F1 g1, Has.of hB F2 g2, ⟨K1.1, State.isArrayOf_alike al K1.2.1, K1.2.2, by rcases hcod with ⟨-, q, -⟩ | ⟨-, q, -⟩ <;> omega⟩, hcod, fun j hj => by
    have e : cs.getD j 0 = cs[j] := by simp [List.getD_eq_getElem?_getD, hj]
    show ¬ cs.getD j 0 < 0 ∧ ¬ 65535 < cs.getD j 0
    rw [e]; exact hb _ (List.getElem_mem _)⟩
theorem same_list (cs ds : List Int32) : SameT cs.length (fun j => cs.getD j 0) ds.length (fun j => ds.getD j 0) ↔ cs = ds := by
  constructor
  · rintro ⟨e, q⟩
    refine List.ext_getElem e fun j h1 h2 => ?_
    have := q j h1
    simpa [List.getD_eq_getElem?_getD, h1, h2] using this
  · rintro rfl
    exact ⟨rfl, fun _ _ => rfl⟩
/-- **equals(Object) OF TWO SUCH STRINGS**: 1 just where the chars are the same -/
theorem eqW {p : Program} {l : Launch} {e : Env} {R : Room} {s : State} {args : Array Value} {below : List Frame} {len W : Nat} {Z : State} {a0 : Array Value} {h : Heap} (hZ : Z.Warmed39 s.vm) (hw : ∀ d ∈ wordsEq, d.before a0 Z = true) {kI : Nat} (wi : (Jvm.Cond.instantiable ST kI).before a0 Z = true)
    {x t : Addr} {kb : ClassId} {cs : List Int32} {cd N2 : Int32} {vs : List Value} (E : RoadKit.Exa Z h x ST) (V : RoadKit.Fld Z h x ST "value" "[B" (.ref t)) (C : RoadKit.Fld Z h x ST "coder" "B" (.int cd)) (K : RoadKit.Arv Z h t kb .byte N2 vs (.int 0)) (hc : CodA cs cd N2 vs) (hb : ∀ c ∈ cs, ¬ c < 0 ∧ ¬ (65535 : Int32) < c) (l2 : cs.length ≤ 4000)
    {y t' : Addr} {kb' : ClassId} {ds : List Int32} {cd' N2' : Int32} {vs' : List Value} (E' : RoadKit.Exa Z h y ST) (V' : RoadKit.Fld Z h y ST "value" "[B" (.ref t')) (C' : RoadKit.Fld Z h y ST "coder" "B" (.int cd')) (K' : RoadKit.Arv Z h t' kb' .byte N2' vs' (.int 0)) (hc' : CodA ds cd' N2' vs') (hb' : ∀ c ∈ ds, ¬ c < 0 ∧ ¬ (65535 : Int32) < c) (l2' : ds.length ≤ 4000)
    {z : Int32} (S : RoadKit.Sta Z h ST "COMPACT_STRINGS" "Z" (.int z)) (hz : ¬ z = 0) (hfr : 2 ≤ R.frames) (hlo : W + 28 ≤ R.locals) :
    Back l R p e below s args (⟨"java/lang/String", "equals", "(Ljava/lang/Object;)Z"⟩ : MethodName) len W (fun P a => a = #[.ref x, .ref y] ∧ P.U.heap = h ∧ P.cells + 0 ≤ R.cells ∧ P.slots + 0 ≤ R.slots)
      (fun P _ v B => ∃ L, (((v = some (.int 1) ∧ cs = ds) ∨ (v = some (.int 0) ∧ ¬ cs = ds)) ∧ L = [] ∧ B.U.heap = h) ∧ B.locs = P.locs ++ L ∧ B.cells = P.cells + 0 ∧ B.slots = P.slots + 0) := by
  intro m meth c P g ig mk a X hg hsize hdg hW hn hp'
  obtain ⟨rfl, rfl, r1, r2⟩ := hp'
  have al : Z.vm.Alike P.U.vm := hZ.alike.trans X.warmed.alike
  obtain ⟨A, hx⟩ := txt_of wi al E V C K hc hb l2
  obtain ⟨A', hy⟩ := txt_of wi al E' V' C' K' hc' hb' l2'
  obtain ⟨v, B, X', ⟨⟨w, hv, hh, hq⟩, hl, hk, hs⟩, st⟩ := SEq.pays x t A cd cs.length (fun j => cs.getD j 0) y t' A' cd' ds.length (fun j => ds.getD j 0) z (tabEq_of (movedEq hZ hw)) hfr hlo m meth c P g ig mk _ X hg hsize hdg hW hn ⟨r1, r2, rfl, hx, hy, sta_is al S, hz⟩
  refine ⟨v, B, X', ⟨[], ⟨?_, rfl, hh⟩, hl, hk, hs⟩, st⟩
  rcases hq with ⟨rfl, q⟩ | ⟨rfl, q⟩
  · exact Or.inl ⟨hv, (same_list cs ds).mp q⟩
  · exact Or.inr ⟨hv, fun e => q ((same_list cs ds).mpr e)⟩
end StrChars.Road
end Jvm.Pilot.@@N@@
namespace Jvm.Pilot.@@N@@
open Jvm Jvm.ClassFile Sem Op Lib Jvm.Free Jvm.Stand Jvm.LawKit Jvm.RoadKit Bundle Jvm.Own Jvm.Pilot.@@N@@.Jvm.D
abbrev own_EL : List (String × Nat) := consts_1
theorem lt0_a : ∀ c ∈ ("" : String).toList, c.toNat < 256 := by decide +kernel
theorem lt0_b : ("" : String).toList.map (fun c => Value.int (Jvm.Lit.byteI c.toNat.toUInt16)) = (([] : List Int32) : List Int32).map fun c => Value.int c.toInt8.toInt32 := by decide +kernel
theorem lt0_c : ∀ c ∈ (([] : List Int32) : List Int32), ¬ c < 0 ∧ ¬ (255 : Int32) < c := by decide +kernel
theorem lt0_d : 4 * ("" : String).toList.length = 0 := by decide +kernel
theorem wd_0 : (Jvm.Cond.methodLink "com/example/tranche/tranche/DeliveryEqualsPinLaw" (12 : Nat) ({ cls := "java/lang/Math", name := "min", desc := "(II)I" } : Jvm.MethodName)) ∈ tables_1 := List.mem_of_getElem? (i := 0) rfl
theorem wd_1 : (Jvm.Cond.static ({ cls := "java/lang/Math", name := "min", desc := "(II)I" } : Jvm.MethodName)) ∈ tables_1 := List.mem_of_getElem? (i := 1) rfl
theorem wd_2 : (Jvm.Cond.initialized "java/lang/Math") ∈ tables_1 := List.mem_of_getElem? (i := 2) rfl
theorem wd_3 : (Jvm.Cond.code ({ cls := "java/lang/Math", name := "min", desc := "(II)I" } : Jvm.MethodName) jdk_29_method_69_code (2 : Nat) (Option.some Jvm.ClassFile.FieldType.int)) ∈ tables_1 := List.mem_of_getElem? (i := 3) rfl
theorem wd_4 : (Jvm.Cond.methodLink "com/example/tranche/tranche/DeliveryEqualsPinLaw" (18 : Nat) ({ cls := "com/example/tranche/tranche/DeliveryEqualsPinLaw", name := "mk", desc := "(ICC)Ljava/lang/String;" } : Jvm.MethodName)) ∈ tables_1 := List.mem_of_getElem? (i := 4) rfl
theorem wd_5 : (Jvm.Cond.static ({ cls := "com/example/tranche/tranche/DeliveryEqualsPinLaw", name := "mk", desc := "(ICC)Ljava/lang/String;" } : Jvm.MethodName)) ∈ tables_1 := List.mem_of_getElem? (i := 5) rfl
theorem wd_6 : (Jvm.Cond.initialized "com/example/tranche/tranche/DeliveryEqualsPinLaw") ∈ tables_1 := List.mem_of_getElem? (i := 6) rfl
theorem wd_7 : (Jvm.Cond.code ({ cls := "com/example/tranche/tranche/DeliveryEqualsPinLaw", name := "mk", desc := "(ICC)Ljava/lang/String;" } : Jvm.MethodName) method_2_code (3 : Nat) (Option.some (Jvm.ClassFile.FieldType.object "java/lang/String"))) ∈ tables_1 := List.mem_of_getElem? (i := 7) rfl
theorem wd_8 : (Jvm.Cond.classLink "com/example/tranche/tranche/DeliveryEqualsPinLaw" (7 : Nat) "java/lang/String") ∈ tables_1 := List.mem_of_getElem? (i := 8) rfl
theorem wd_9 : (Jvm.Cond.instantiable "java/lang/String" (4 : Nat)) ∈ tables_1 := List.mem_of_getElem? (i := 9) rfl
theorem wd_10 : (Jvm.Cond.initialized "java/lang/String") ∈ tables_1 := List.mem_of_getElem? (i := 10) rfl
theorem wd_11 : (Jvm.Cond.arrayClass Jvm.ClassFile.FieldType.char) ∈ tables_1 := List.mem_of_getElem? (i := 11) rfl
theorem wd_12 : (Jvm.Cond.methodLink "com/example/tranche/tranche/DeliveryEqualsPinLaw" (9 : Nat) ({ cls := "java/lang/String", name := "<init>", desc := "([C)V" } : Jvm.MethodName)) ∈ tables_1 := List.mem_of_getElem? (i := 12) rfl
theorem wd_13 : (Jvm.Cond.instanceMethod ({ cls := "java/lang/String", name := "<init>", desc := "([C)V" } : Jvm.MethodName)) ∈ tables_1 := List.mem_of_getElem? (i := 13) rfl
theorem wd_14 : (Jvm.Cond.code ({ cls := "java/lang/String", name := "<init>", desc := "([C)V" } : Jvm.MethodName) jdk_42_method_3_code (2 : Nat) (Option.none : Option Jvm.ClassFile.FieldType)) ∈ tables_1 := List.mem_of_getElem? (i := 14) rfl
theorem wd_15 : (Jvm.Cond.methodLink "java/lang/String" (27 : Nat) ({ cls := "java/lang/String", name := "<init>", desc := "([CIILjava/lang/Void;)V" } : Jvm.MethodName)) ∈ tables_1 := List.mem_of_getElem? (i := 15) rfl
theorem wd_16 : (Jvm.Cond.instanceMethod ({ cls := "java/lang/String", name := "<init>", desc := "([CIILjava/lang/Void;)V" } : Jvm.MethodName)) ∈ tables_1 := List.mem_of_getElem? (i := 16) rfl
theorem wd_18 : (Jvm.Cond.code ({ cls := "java/lang/String", name := "<init>", desc := "([CIILjava/lang/Void;)V" } : Jvm.MethodName) jdk_42_method_149_code (6 : Nat) (Option.none : Option Jvm.ClassFile.FieldType)) ∈ tables_1 := List.mem_of_getElem? (i := 18) rfl
theorem wd_19 : (Jvm.Cond.methodLink "java/lang/String" (1 : Nat) ({ cls := "java/lang/Object", name := "<init>", desc := "()V" } : Jvm.MethodName)) ∈ tables_1 := List.mem_of_getElem? (i := 19) rfl
theorem wd_20 : (Jvm.Cond.instanceMethod ({ cls := "java/lang/Object", name := "<init>", desc := "()V" } : Jvm.MethodName)) ∈ tables_1 := List.mem_of_getElem? (i := 20) rfl
theorem wd_21 : (Jvm.Cond.code ({ cls := "java/lang/Object", name := "<init>", desc := "()V" } : Jvm.MethodName) object_method_1_code (1 : Nat) (Option.none : Option Jvm.ClassFile.FieldType)) ∈ tables_1 := List.mem_of_getElem? (i := 21) rfl
theorem wd_22 : (Jvm.Cond.stringLink "java/lang/String" (7 : Nat) "") ∈ tables_1 := List.mem_of_getElem? (i := 22) rfl
theorem wd_23 : (Jvm.Cond.arrayClass Jvm.ClassFile.FieldType.byte) ∈ tables_1 := List.mem_of_getElem? (i := 23) rfl
theorem wd_24 : (Jvm.Cond.laysFinal "java/lang/String" "java/lang/String" "value" "[B") ∈ tables_1 := List.mem_of_getElem? (i := 24) rfl
theorem wd_25 : (Jvm.Cond.laysFinal "java/lang/String" "java/lang/String" "coder" "B") ∈ tables_1 := List.mem_of_getElem? (i := 25) rfl
theorem wd_26 : (Jvm.Cond.soleField "java/lang/String" "value") ∈ tables_1 := List.mem_of_getElem? (i := 26) rfl
theorem wd_27 : (Jvm.Cond.soleField "java/lang/String" "coder") ∈ tables_1 := List.mem_of_getElem? (i := 27) rfl
theorem wd_28 : (Jvm.Cond.fieldLink "java/lang/String" (9 : Nat) "java/lang/String" "value" "[B") ∈ tables_1 := List.mem_of_getElem? (i := 28) rfl
theorem wd_29 : (Jvm.Cond.fieldLink "java/lang/String" (15 : Nat) "java/lang/String" "coder" "B") ∈ tables_1 := List.mem_of_getElem? (i := 29) rfl
theorem wd_30 : (Jvm.Cond.fieldLink "com/example/tranche/tranche/DeliveryEqualsPinLaw" (30 : Nat) "com/example/tranche/tranche/Payout$Kind" "GRAB" "Lcom/example/tranche/tranche/Payout$Kind;") ∈ tables_1 := List.mem_of_getElem? (i := 30) rfl
theorem wd_31 : (Jvm.Cond.initialized "com/example/tranche/tranche/Payout$Kind") ∈ tables_1 := List.mem_of_getElem? (i := 31) rfl
theorem wd_32 : (Jvm.Cond.laysStatic "com/example/tranche/tranche/Payout$Kind" "GRAB" "Lcom/example/tranche/tranche/Payout$Kind;") ∈ tables_1 := List.mem_of_getElem? (i := 32) rfl
theorem wd_33 : (Jvm.Cond.classLink "com/example/tranche/tranche/DeliveryEqualsPinLaw" (33 : Nat) "com/example/tranche/tranche/Payout") ∈ tables_1 := List.mem_of_getElem? (i := 33) rfl
theorem wd_34 : (Jvm.Cond.instantiable "com/example/tranche/tranche/Payout" (4 : Nat)) ∈ tables_1 := List.mem_of_getElem? (i := 34) rfl
theorem wd_35 : (Jvm.Cond.initialized "com/example/tranche/tranche/Payout") ∈ tables_1 := List.mem_of_getElem? (i := 35) rfl
theorem wd_36 : (Jvm.Cond.methodLink "com/example/tranche/tranche/DeliveryEqualsPinLaw" (35 : Nat) ({ cls := "com/example/tranche/tranche/Payout", name := "<init>", desc := "(Lcom/example/tranche/tranche/Payout$Kind;Ljava/lang/String;Ljava/lang/String;J)V" } : Jvm.MethodName)) ∈ tables_1 := List.mem_of_getElem? (i := 36) rfl
theorem wd_37 : (Jvm.Cond.instanceMethod ({ cls := "com/example/tranche/tranche/Payout", name := "<init>", desc := "(Lcom/example/tranche/tranche/Payout$Kind;Ljava/lang/String;Ljava/lang/String;J)V" } : Jvm.MethodName)) ∈ tables_1 := List.mem_of_getElem? (i := 37) rfl
theorem wd_38 : (Jvm.Cond.code ({ cls := "com/example/tranche/tranche/Payout", name := "<init>", desc := "(Lcom/example/tranche/tranche/Payout$Kind;Ljava/lang/String;Ljava/lang/String;J)V" } : Jvm.MethodName) prog_9_method_1_code (6 : Nat) (Option.none : Option Jvm.ClassFile.FieldType)) ∈ tables_1 := List.mem_of_getElem? (i := 38) rfl
theorem wd_39 : (Jvm.Cond.methodLink "com/example/tranche/tranche/Payout" (1 : Nat) ({ cls := "java/lang/Object", name := "<init>", desc := "()V" } : Jvm.MethodName)) ∈ tables_1 := List.mem_of_getElem? (i := 39) rfl
theorem wd_40 : (Jvm.Cond.fieldLink "com/example/tranche/tranche/Payout" (7 : Nat) "com/example/tranche/tranche/Payout" "kind" "Lcom/example/tranche/tranche/Payout$Kind;") ∈ tables_1 := List.mem_of_getElem? (i := 40) rfl
theorem wd_41 : (Jvm.Cond.laysFinal "com/example/tranche/tranche/Payout" "com/example/tranche/tranche/Payout" "kind" "Lcom/example/tranche/tranche/Payout$Kind;") ∈ tables_1 := List.mem_of_getElem? (i := 41) rfl
theorem wd_42 : (Jvm.Cond.fieldLink "com/example/tranche/tranche/Payout" (13 : Nat) "com/example/tranche/tranche/Payout" "packetId" "Ljava/lang/String;") ∈ tables_1 := List.mem_of_getElem? (i := 42) rfl
theorem wd_43 : (Jvm.Cond.laysFinal "com/example/tranche/tranche/Payout" "com/example/tranche/tranche/Payout" "packetId" "Ljava/lang/String;") ∈ tables_1 := List.mem_of_getElem? (i := 43) rfl
theorem wd_44 : (Jvm.Cond.fieldLink "com/example/tranche/tranche/Payout" (17 : Nat) "com/example/tranche/tranche/Payout" "user" "Ljava/lang/String;") ∈ tables_1 := List.mem_of_getElem? (i := 44) rfl
theorem wd_45 : (Jvm.Cond.laysFinal "com/example/tranche/tranche/Payout" "com/example/tranche/tranche/Payout" "user" "Ljava/lang/String;") ∈ tables_1 := List.mem_of_getElem? (i := 45) rfl
theorem wd_46 : (Jvm.Cond.fieldLink "com/example/tranche/tranche/Payout" (20 : Nat) "com/example/tranche/tranche/Payout" "amountCents" "J") ∈ tables_1 := List.mem_of_getElem? (i := 46) rfl
theorem wd_47 : (Jvm.Cond.laysFinal "com/example/tranche/tranche/Payout" "com/example/tranche/tranche/Payout" "amountCents" "J") ∈ tables_1 := List.mem_of_getElem? (i := 47) rfl
theorem wd_48 : (Jvm.Cond.classLink "com/example/tranche/tranche/DeliveryEqualsPinLaw" (38 : Nat) "com/example/tranche/tranche/Delivery") ∈ tables_1 := List.mem_of_getElem? (i := 48) rfl
theorem wd_49 : (Jvm.Cond.instantiable "com/example/tranche/tranche/Delivery" (3 : Nat)) ∈ tables_1 := List.mem_of_getElem? (i := 49) rfl
theorem wd_50 : (Jvm.Cond.initialized "com/example/tranche/tranche/Delivery") ∈ tables_1 := List.mem_of_getElem? (i := 50) rfl
theorem wd_51 : (Jvm.Cond.methodLink "com/example/tranche/tranche/DeliveryEqualsPinLaw" (40 : Nat) ({ cls := "com/example/tranche/tranche/Delivery", name := "<init>", desc := "(Ljava/lang/String;Lcom/example/tranche/tranche/Payout;I)V" } : Jvm.MethodName)) ∈ tables_1 := List.mem_of_getElem? (i := 51) rfl
theorem wd_52 : (Jvm.Cond.instanceMethod ({ cls := "com/example/tranche/tranche/Delivery", name := "<init>", desc := "(Ljava/lang/String;Lcom/example/tranche/tranche/Payout;I)V" } : Jvm.MethodName)) ∈ tables_1 := List.mem_of_getElem? (i := 52) rfl
theorem wd_53 : (Jvm.Cond.code ({ cls := "com/example/tranche/tranche/Delivery", name := "<init>", desc := "(Ljava/lang/String;Lcom/example/tranche/tranche/Payout;I)V" } : Jvm.MethodName) prog_4_method_1_code (4 : Nat) (Option.none : Option Jvm.ClassFile.FieldType)) ∈ tables_1 := List.mem_of_getElem? (i := 53) rfl
theorem wd_54 : (Jvm.Cond.methodLink "com/example/tranche/tranche/Delivery" (1 : Nat) ({ cls := "java/lang/Object", name := "<init>", desc := "()V" } : Jvm.MethodName)) ∈ tables_1 := List.mem_of_getElem? (i := 54) rfl
theorem wd_55 : (Jvm.Cond.fieldLink "com/example/tranche/tranche/Delivery" (7 : Nat) "com/example/tranche/tranche/Delivery" "payoutId" "Ljava/lang/String;") ∈ tables_1 := List.mem_of_getElem? (i := 55) rfl
theorem wd_56 : (Jvm.Cond.laysFinal "com/example/tranche/tranche/Delivery" "com/example/tranche/tranche/Delivery" "payoutId" "Ljava/lang/String;") ∈ tables_1 := List.mem_of_getElem? (i := 56) rfl
theorem wd_57 : (Jvm.Cond.fieldLink "com/example/tranche/tranche/Delivery" (13 : Nat) "com/example/tranche/tranche/Delivery" "payout" "Lcom/example/tranche/tranche/Payout;") ∈ tables_1 := List.mem_of_getElem? (i := 57) rfl
theorem wd_58 : (Jvm.Cond.laysFinal "com/example/tranche/tranche/Delivery" "com/example/tranche/tranche/Delivery" "payout" "Lcom/example/tranche/tranche/Payout;") ∈ tables_1 := List.mem_of_getElem? (i := 58) rfl
theorem wd_59 : (Jvm.Cond.fieldLink "com/example/tranche/tranche/Delivery" (17 : Nat) "com/example/tranche/tranche/Delivery" "tries" "I") ∈ tables_1 := List.mem_of_getElem? (i := 59) rfl
theorem wd_60 : (Jvm.Cond.laysFinal "com/example/tranche/tranche/Delivery" "com/example/tranche/tranche/Delivery" "tries" "I") ∈ tables_1 := List.mem_of_getElem? (i := 60) rfl
theorem wd_61 : (Jvm.Cond.methodLink "com/example/tranche/tranche/DeliveryEqualsPinLaw" (43 : Nat) ({ cls := "com/example/tranche/tranche/Delivery", name := "equals", desc := "(Ljava/lang/Object;)Z" } : Jvm.MethodName)) ∈ tables_1 := List.mem_of_getElem? (i := 61) rfl
theorem wd_62 : (Jvm.Cond.declares ({ cls := "com/example/tranche/tranche/Delivery", name := "equals", desc := "(Ljava/lang/Object;)Z" } : Jvm.MethodName)) ∈ tables_1 := List.mem_of_getElem? (i := 62) rfl
theorem wd_63 : (Jvm.Cond.instanceMethod ({ cls := "com/example/tranche/tranche/Delivery", name := "equals", desc := "(Ljava/lang/Object;)Z" } : Jvm.MethodName)) ∈ tables_1 := List.mem_of_getElem? (i := 63) rfl
theorem wd_64 : (Jvm.Cond.selects "com/example/tranche/tranche/Delivery" ({ cls := "com/example/tranche/tranche/Delivery", name := "equals", desc := "(Ljava/lang/Object;)Z" } : Jvm.MethodName) ({ cls := "com/example/tranche/tranche/Delivery", name := "equals", desc := "(Ljava/lang/Object;)Z" } : Jvm.MethodName)) ∈ tables_1 := List.mem_of_getElem? (i := 64) rfl
theorem wd_65 : (Jvm.Cond.code ({ cls := "com/example/tranche/tranche/Delivery", name := "equals", desc := "(Ljava/lang/Object;)Z" } : Jvm.MethodName) prog_4_method_6_code (3 : Nat) (Option.some Jvm.ClassFile.FieldType.boolean)) ∈ tables_1 := List.mem_of_getElem? (i := 65) rfl
theorem wd_66 : (Jvm.Cond.classLink "com/example/tranche/tranche/Delivery" (8 : Nat) "com/example/tranche/tranche/Delivery") ∈ tables_1 := List.mem_of_getElem? (i := 66) rfl
theorem wd_68 : (Jvm.Cond.methodLink "com/example/tranche/tranche/Delivery" (24 : Nat) ({ cls := "java/lang/String", name := "equals", desc := "(Ljava/lang/Object;)Z" } : Jvm.MethodName)) ∈ tables_1 := List.mem_of_getElem? (i := 68) rfl
theorem wd_69 : (Jvm.Cond.declares ({ cls := "java/lang/String", name := "equals", desc := "(Ljava/lang/Object;)Z" } : Jvm.MethodName)) ∈ tables_1 := List.mem_of_getElem? (i := 69) rfl
theorem wd_70 : (Jvm.Cond.instanceMethod ({ cls := "java/lang/String", name := "equals", desc := "(Ljava/lang/Object;)Z" } : Jvm.MethodName)) ∈ tables_1 := List.mem_of_getElem? (i := 70) rfl
theorem wd_71 : (Jvm.Cond.selects "java/lang/String" ({ cls := "java/lang/String", name := "equals", desc := "(Ljava/lang/Object;)Z" } : Jvm.MethodName) ({ cls := "java/lang/String", name := "equals", desc := "(Ljava/lang/Object;)Z" } : Jvm.MethodName)) ∈ tables_1 := List.mem_of_getElem? (i := 71) rfl
theorem wd_79 : (Jvm.Cond.superclass "com/example/tranche/tranche/Payout" "java/lang/Object") ∈ tables_1 := List.mem_of_getElem? (i := 79) rfl
theorem wd_80 : (Jvm.Cond.noSuperclass "java/lang/Object") ∈ tables_1 := List.mem_of_getElem? (i := 80) rfl
theorem wd_91 : (Jvm.Cond.fieldLink "com/example/tranche/tranche/DeliveryEqualsPinLaw" (24 : Nat) "com/example/tranche/tranche/Payout$Kind" "REFUND" "Lcom/example/tranche/tranche/Payout$Kind;") ∈ tables_1 := List.mem_of_getElem? (i := 91) rfl
theorem wd_92 : (Jvm.Cond.laysStatic "com/example/tranche/tranche/Payout$Kind" "REFUND" "Lcom/example/tranche/tranche/Payout$Kind;") ∈ tables_1 := List.mem_of_getElem? (i := 92) rfl
theorem pd0 : parseMethodDescriptor "([CIILjava/lang/Void;)V" = some ⟨[(.array .char), .int, .int, (.object "java/lang/Void")], none⟩ := by decide +kernel
theorem pd1 : parseMethodDescriptor "([C)V" = some ⟨[(.array .char)], none⟩ := by decide +kernel
theorem pd2 : parseMethodDescriptor "(II)I" = some ⟨[.int, .int], some .int⟩ := by decide +kernel
theorem pd3 : parseMethodDescriptor "(ICC)Ljava/lang/String;" = some ⟨[.int, .char, .char], some (.object "java/lang/String")⟩ := by decide +kernel
theorem pd4 : parseMethodDescriptor "(Lcom/example/tranche/tranche/Payout$Kind;Ljava/lang/String;Ljava/lang/String;J)V" = some ⟨[(.object "com/example/tranche/tranche/Payout$Kind"), (.object "java/lang/String"), (.object "java/lang/String"), .long], none⟩ := by decide +kernel
theorem pd5 : parseMethodDescriptor "(Ljava/lang/String;Lcom/example/tranche/tranche/Payout;I)V" = some ⟨[(.object "java/lang/String"), (.object "com/example/tranche/tranche/Payout"), .int], none⟩ := by decide +kernel
theorem pd6 : parseMethodDescriptor "(Ljava/lang/Object;)Z" = some ⟨[(.object "java/lang/Object")], some .boolean⟩ := by decide +kernel
theorem pn0 : plainFor (⟨"java/lang/Math", "min", "(II)I"⟩ : MethodName) = true := by first | exact plainFor_of_name (by first | (simp [plainName, overriddenIn]; done) | decide +kernel) | decide +kernel
theorem pn1 : plainFor (⟨"java/lang/String", "<init>", "([CIILjava/lang/Void;)V"⟩ : MethodName) = true := by first | exact plainFor_of_name (by first | (simp [plainName, overriddenIn]; done) | decide +kernel) | decide +kernel
theorem pn2 : plainFor (⟨"java/lang/String", "<init>", "([C)V"⟩ : MethodName) = true := by first | exact plainFor_of_name (by first | (simp [plainName, overriddenIn]; done) | decide +kernel) | decide +kernel
theorem pn3 : plainFor (⟨"com/example/tranche/tranche/DeliveryEqualsPinLaw", "mk", "(ICC)Ljava/lang/String;"⟩ : MethodName) = true := by first | exact plainFor_of_name (by first | (simp [plainName, overriddenIn]; done) | decide +kernel) | decide +kernel
theorem pn4 : plainFor (⟨"com/example/tranche/tranche/Payout", "<init>", "(Lcom/example/tranche/tranche/Payout$Kind;Ljava/lang/String;Ljava/lang/String;J)V"⟩ : MethodName) = true := by first | exact plainFor_of_name (by first | (simp [plainName, overriddenIn]; done) | decide +kernel) | decide +kernel
theorem pn5 : plainFor (⟨"com/example/tranche/tranche/Delivery", "<init>", "(Ljava/lang/String;Lcom/example/tranche/tranche/Payout;I)V"⟩ : MethodName) = true := by first | exact plainFor_of_name (by first | (simp [plainName, overriddenIn]; done) | decide +kernel) | decide +kernel
theorem pn6 : plainFor (⟨"com/example/tranche/tranche/Delivery", "equals", "(Ljava/lang/Object;)Z"⟩ : MethodName) = true := by first | exact plainFor_of_name (by first | (simp [plainName, overriddenIn]; done) | decide +kernel) | decide +kernel
theorem pn7 : plainFor (⟨"com/example/tranche/tranche/DeliveryEqualsPinLaw", "law", "(IIII)Z"⟩ : MethodName) = true := by first | exact plainFor_of_name (by first | (simp [plainName, overriddenIn]; done) | decide +kernel) | decide +kernel
theorem i0_0 : Jvm.Own.Ins jdk_29_method_69_code 0 (.iload_n 0) 1 1 := ⟨by decide +kernel, rfl⟩
theorem i0_1 : Jvm.Own.Ins jdk_29_method_69_code 1 (.iload_n 1) 1 2 := ⟨by decide +kernel, rfl⟩
theorem i0_2 : Jvm.Own.Ins jdk_29_method_69_code 2 (.if_icmp .gt 7) 3 5 := ⟨by decide +kernel, rfl⟩
theorem i0_5 : Jvm.Own.Ins jdk_29_method_69_code 5 (.iload_n 0) 1 6 := ⟨by decide +kernel, rfl⟩
theorem i0_6 : Jvm.Own.Ins jdk_29_method_69_code 6 (.goto 4) 3 9 := ⟨by decide +kernel, rfl⟩
theorem i0_9 : Jvm.Own.Ins jdk_29_method_69_code 9 (.iload_n 1) 1 10 := ⟨by decide +kernel, rfl⟩
theorem i0_10 : Jvm.Own.Ins jdk_29_method_69_code 10 (.ireturn) 1 11 := ⟨by decide +kernel, rfl⟩
theorem i1_0 : Jvm.Own.Ins jdk_42_method_149_code 0 (.aload_n 0) 1 1 := ⟨by decide +kernel, rfl⟩
theorem i1_1 : Jvm.Own.Ins jdk_42_method_149_code 1 (.invokespecial 1) 3 4 := ⟨by decide +kernel, rfl⟩
theorem i1_4 : Jvm.Own.Ins jdk_42_method_149_code 4 (.iload_n 3) 1 5 := ⟨by decide +kernel, rfl⟩
theorem i1_5 : Jvm.Own.Ins jdk_42_method_149_code 5 (.ifCond .ne 22) 3 8 := ⟨by decide +kernel, rfl⟩
theorem i1_8 : Jvm.Own.Ins jdk_42_method_149_code 8 (.aload_n 0) 1 9 := ⟨by decide +kernel, rfl⟩
theorem i1_9 : Jvm.Own.Ins jdk_42_method_149_code 9 (.ldc 7) 2 11 := ⟨by decide +kernel, rfl⟩
theorem i1_11 : Jvm.Own.Ins jdk_42_method_149_code 11 (.getfield 9) 3 14 := ⟨by decide +kernel, rfl⟩
theorem i1_14 : Jvm.Own.Ins jdk_42_method_149_code 14 (.putfield 9) 3 17 := ⟨by decide +kernel, rfl⟩
theorem i1_17 : Jvm.Own.Ins jdk_42_method_149_code 17 (.aload_n 0) 1 18 := ⟨by decide +kernel, rfl⟩
theorem i1_18 : Jvm.Own.Ins jdk_42_method_149_code 18 (.ldc 7) 2 20 := ⟨by decide +kernel, rfl⟩
theorem i1_20 : Jvm.Own.Ins jdk_42_method_149_code 20 (.getfield 15) 3 23 := ⟨by decide +kernel, rfl⟩
theorem i1_23 : Jvm.Own.Ins jdk_42_method_149_code 23 (.putfield 15) 3 26 := ⟨by decide +kernel, rfl⟩
theorem i1_26 : Jvm.Own.Ins jdk_42_method_149_code 26 (.return_) 1 27 := ⟨by decide +kernel, rfl⟩
theorem i2_0 : Jvm.Own.Ins jdk_42_method_3_code 0 (.aload_n 0) 1 1 := ⟨by decide +kernel, rfl⟩
theorem i2_1 : Jvm.Own.Ins jdk_42_method_3_code 1 (.aload_n 1) 1 2 := ⟨by decide +kernel, rfl⟩
theorem i2_2 : Jvm.Own.Ins jdk_42_method_3_code 2 (.iconst 0) 1 3 := ⟨by decide +kernel, rfl⟩
theorem i2_3 : Jvm.Own.Ins jdk_42_method_3_code 3 (.aload_n 1) 1 4 := ⟨by decide +kernel, rfl⟩
theorem i2_4 : Jvm.Own.Ins jdk_42_method_3_code 4 (.arraylength) 1 5 := ⟨by decide +kernel, rfl⟩
theorem i2_5 : Jvm.Own.Ins jdk_42_method_3_code 5 (.aconst_null) 1 6 := ⟨by decide +kernel, rfl⟩
theorem i2_6 : Jvm.Own.Ins jdk_42_method_3_code 6 (.invokespecial 27) 3 9 := ⟨by decide +kernel, rfl⟩
theorem i2_9 : Jvm.Own.Ins jdk_42_method_3_code 9 (.return_) 1 10 := ⟨by decide +kernel, rfl⟩
theorem i3_0 : Jvm.Own.Ins method_2_code 0 (.iload_n 0) 1 1 := ⟨by decide +kernel, rfl⟩
theorem i3_1 : Jvm.Own.Ins method_2_code 1 (.ifCond .ne 14) 3 4 := ⟨by decide +kernel, rfl⟩
theorem i3_4 : Jvm.Own.Ins method_2_code 4 (.new 7) 3 7 := ⟨by decide +kernel, rfl⟩
theorem i3_7 : Jvm.Own.Ins method_2_code 7 (.dup) 1 8 := ⟨by decide +kernel, rfl⟩
theorem i3_8 : Jvm.Own.Ins method_2_code 8 (.iconst 0) 1 9 := ⟨by decide +kernel, rfl⟩
theorem i3_9 : Jvm.Own.Ins method_2_code 9 (.newarray .char) 2 11 := ⟨by decide +kernel, rfl⟩
theorem i3_11 : Jvm.Own.Ins method_2_code 11 (.invokespecial 9) 3 14 := ⟨by decide +kernel, rfl⟩
theorem i3_14 : Jvm.Own.Ins method_2_code 14 (.areturn) 1 15 := ⟨by decide +kernel, rfl⟩
theorem i3_15 : Jvm.Own.Ins method_2_code 15 (.iload_n 0) 1 16 := ⟨by decide +kernel, rfl⟩
theorem i3_16 : Jvm.Own.Ins method_2_code 16 (.iconst 1) 1 17 := ⟨by decide +kernel, rfl⟩
theorem i3_17 : Jvm.Own.Ins method_2_code 17 (.if_icmp .ne 18) 3 20 := ⟨by decide +kernel, rfl⟩
theorem i3_20 : Jvm.Own.Ins method_2_code 20 (.new 7) 3 23 := ⟨by decide +kernel, rfl⟩
theorem i3_23 : Jvm.Own.Ins method_2_code 23 (.dup) 1 24 := ⟨by decide +kernel, rfl⟩
theorem i3_24 : Jvm.Own.Ins method_2_code 24 (.iconst 1) 1 25 := ⟨by decide +kernel, rfl⟩
theorem i3_25 : Jvm.Own.Ins method_2_code 25 (.newarray .char) 2 27 := ⟨by decide +kernel, rfl⟩
theorem i3_27 : Jvm.Own.Ins method_2_code 27 (.dup) 1 28 := ⟨by decide +kernel, rfl⟩
theorem i3_28 : Jvm.Own.Ins method_2_code 28 (.iconst 0) 1 29 := ⟨by decide +kernel, rfl⟩
theorem i3_29 : Jvm.Own.Ins method_2_code 29 (.iload_n 1) 1 30 := ⟨by decide +kernel, rfl⟩
theorem i3_30 : Jvm.Own.Ins method_2_code 30 (.castore) 1 31 := ⟨by decide +kernel, rfl⟩
theorem i3_31 : Jvm.Own.Ins method_2_code 31 (.invokespecial 9) 3 34 := ⟨by decide +kernel, rfl⟩
theorem i3_34 : Jvm.Own.Ins method_2_code 34 (.areturn) 1 35 := ⟨by decide +kernel, rfl⟩
theorem i3_35 : Jvm.Own.Ins method_2_code 35 (.new 7) 3 38 := ⟨by decide +kernel, rfl⟩
theorem i3_38 : Jvm.Own.Ins method_2_code 38 (.dup) 1 39 := ⟨by decide +kernel, rfl⟩
theorem i3_39 : Jvm.Own.Ins method_2_code 39 (.iconst 2) 1 40 := ⟨by decide +kernel, rfl⟩
theorem i3_40 : Jvm.Own.Ins method_2_code 40 (.newarray .char) 2 42 := ⟨by decide +kernel, rfl⟩
theorem i3_42 : Jvm.Own.Ins method_2_code 42 (.dup) 1 43 := ⟨by decide +kernel, rfl⟩
theorem i3_43 : Jvm.Own.Ins method_2_code 43 (.iconst 0) 1 44 := ⟨by decide +kernel, rfl⟩
theorem i3_44 : Jvm.Own.Ins method_2_code 44 (.iload_n 1) 1 45 := ⟨by decide +kernel, rfl⟩
theorem i3_45 : Jvm.Own.Ins method_2_code 45 (.castore) 1 46 := ⟨by decide +kernel, rfl⟩
theorem i3_46 : Jvm.Own.Ins method_2_code 46 (.dup) 1 47 := ⟨by decide +kernel, rfl⟩
theorem i3_47 : Jvm.Own.Ins method_2_code 47 (.iconst 1) 1 48 := ⟨by decide +kernel, rfl⟩
theorem i3_48 : Jvm.Own.Ins method_2_code 48 (.iload_n 2) 1 49 := ⟨by decide +kernel, rfl⟩
theorem i3_49 : Jvm.Own.Ins method_2_code 49 (.castore) 1 50 := ⟨by decide +kernel, rfl⟩
theorem i3_50 : Jvm.Own.Ins method_2_code 50 (.invokespecial 9) 3 53 := ⟨by decide +kernel, rfl⟩
theorem i3_53 : Jvm.Own.Ins method_2_code 53 (.areturn) 1 54 := ⟨by decide +kernel, rfl⟩
theorem i4_0 : Jvm.Own.Ins prog_9_method_1_code 0 (.aload_n 0) 1 1 := ⟨by decide +kernel, rfl⟩
theorem i4_1 : Jvm.Own.Ins prog_9_method_1_code 1 (.invokespecial 1) 3 4 := ⟨by decide +kernel, rfl⟩
theorem i4_4 : Jvm.Own.Ins prog_9_method_1_code 4 (.aload_n 0) 1 5 := ⟨by decide +kernel, rfl⟩
theorem i4_5 : Jvm.Own.Ins prog_9_method_1_code 5 (.aload_n 1) 1 6 := ⟨by decide +kernel, rfl⟩
theorem i4_6 : Jvm.Own.Ins prog_9_method_1_code 6 (.putfield 7) 3 9 := ⟨by decide +kernel, rfl⟩
theorem i4_9 : Jvm.Own.Ins prog_9_method_1_code 9 (.aload_n 0) 1 10 := ⟨by decide +kernel, rfl⟩
theorem i4_10 : Jvm.Own.Ins prog_9_method_1_code 10 (.aload_n 2) 1 11 := ⟨by decide +kernel, rfl⟩
theorem i4_11 : Jvm.Own.Ins prog_9_method_1_code 11 (.putfield 13) 3 14 := ⟨by decide +kernel, rfl⟩
theorem i4_14 : Jvm.Own.Ins prog_9_method_1_code 14 (.aload_n 0) 1 15 := ⟨by decide +kernel, rfl⟩
theorem i4_15 : Jvm.Own.Ins prog_9_method_1_code 15 (.aload_n 3) 1 16 := ⟨by decide +kernel, rfl⟩
theorem i4_16 : Jvm.Own.Ins prog_9_method_1_code 16 (.putfield 17) 3 19 := ⟨by decide +kernel, rfl⟩
theorem i4_19 : Jvm.Own.Ins prog_9_method_1_code 19 (.aload_n 0) 1 20 := ⟨by decide +kernel, rfl⟩
theorem i4_20 : Jvm.Own.Ins prog_9_method_1_code 20 (.lload 4) 2 22 := ⟨by decide +kernel, rfl⟩
theorem i4_22 : Jvm.Own.Ins prog_9_method_1_code 22 (.putfield 20) 3 25 := ⟨by decide +kernel, rfl⟩
theorem i4_25 : Jvm.Own.Ins prog_9_method_1_code 25 (.return_) 1 26 := ⟨by decide +kernel, rfl⟩
theorem i5_0 : Jvm.Own.Ins prog_4_method_1_code 0 (.aload_n 0) 1 1 := ⟨by decide +kernel, rfl⟩
theorem i5_1 : Jvm.Own.Ins prog_4_method_1_code 1 (.invokespecial 1) 3 4 := ⟨by decide +kernel, rfl⟩
theorem i5_4 : Jvm.Own.Ins prog_4_method_1_code 4 (.aload_n 0) 1 5 := ⟨by decide +kernel, rfl⟩
theorem i5_5 : Jvm.Own.Ins prog_4_method_1_code 5 (.aload_n 1) 1 6 := ⟨by decide +kernel, rfl⟩
theorem i5_6 : Jvm.Own.Ins prog_4_method_1_code 6 (.putfield 7) 3 9 := ⟨by decide +kernel, rfl⟩
theorem i5_9 : Jvm.Own.Ins prog_4_method_1_code 9 (.aload_n 0) 1 10 := ⟨by decide +kernel, rfl⟩
theorem i5_10 : Jvm.Own.Ins prog_4_method_1_code 10 (.aload_n 2) 1 11 := ⟨by decide +kernel, rfl⟩
theorem i5_11 : Jvm.Own.Ins prog_4_method_1_code 11 (.putfield 13) 3 14 := ⟨by decide +kernel, rfl⟩
theorem i5_14 : Jvm.Own.Ins prog_4_method_1_code 14 (.aload_n 0) 1 15 := ⟨by decide +kernel, rfl⟩
theorem i5_15 : Jvm.Own.Ins prog_4_method_1_code 15 (.iload_n 3) 1 16 := ⟨by decide +kernel, rfl⟩
theorem i5_16 : Jvm.Own.Ins prog_4_method_1_code 16 (.putfield 17) 3 19 := ⟨by decide +kernel, rfl⟩
theorem i5_19 : Jvm.Own.Ins prog_4_method_1_code 19 (.return_) 1 20 := ⟨by decide +kernel, rfl⟩
theorem i6_0 : Jvm.Own.Ins prog_4_method_6_code 0 (.aload_n 1) 1 1 := ⟨by decide +kernel, rfl⟩
theorem i6_1 : Jvm.Own.Ins prog_4_method_6_code 1 (.instanceof 8) 3 4 := ⟨by decide +kernel, rfl⟩
theorem i6_4 : Jvm.Own.Ins prog_4_method_6_code 4 (.ifCond .eq 37) 3 7 := ⟨by decide +kernel, rfl⟩
theorem i6_7 : Jvm.Own.Ins prog_4_method_6_code 7 (.aload_n 1) 1 8 := ⟨by decide +kernel, rfl⟩
theorem i6_8 : Jvm.Own.Ins prog_4_method_6_code 8 (.checkcast 8) 3 11 := ⟨by decide +kernel, rfl⟩
theorem i6_11 : Jvm.Own.Ins prog_4_method_6_code 11 (.astore_n 2) 1 12 := ⟨by decide +kernel, rfl⟩
theorem i6_12 : Jvm.Own.Ins prog_4_method_6_code 12 (.aload_n 2) 1 13 := ⟨by decide +kernel, rfl⟩
theorem i6_13 : Jvm.Own.Ins prog_4_method_6_code 13 (.getfield 7) 3 16 := ⟨by decide +kernel, rfl⟩
theorem i6_16 : Jvm.Own.Ins prog_4_method_6_code 16 (.aload_n 0) 1 17 := ⟨by decide +kernel, rfl⟩
theorem i6_17 : Jvm.Own.Ins prog_4_method_6_code 17 (.getfield 7) 3 20 := ⟨by decide +kernel, rfl⟩
theorem i6_20 : Jvm.Own.Ins prog_4_method_6_code 20 (.invokevirtual 24) 3 23 := ⟨by decide +kernel, rfl⟩
theorem i6_23 : Jvm.Own.Ins prog_4_method_6_code 23 (.ifCond .eq 18) 3 26 := ⟨by decide +kernel, rfl⟩
theorem i6_26 : Jvm.Own.Ins prog_4_method_6_code 26 (.aload_n 2) 1 27 := ⟨by decide +kernel, rfl⟩
theorem i6_27 : Jvm.Own.Ins prog_4_method_6_code 27 (.getfield 17) 3 30 := ⟨by decide +kernel, rfl⟩
theorem i6_30 : Jvm.Own.Ins prog_4_method_6_code 30 (.aload_n 0) 1 31 := ⟨by decide +kernel, rfl⟩
theorem i6_31 : Jvm.Own.Ins prog_4_method_6_code 31 (.getfield 17) 3 34 := ⟨by decide +kernel, rfl⟩
theorem i6_34 : Jvm.Own.Ins prog_4_method_6_code 34 (.if_icmp .ne 7) 3 37 := ⟨by decide +kernel, rfl⟩
theorem i6_37 : Jvm.Own.Ins prog_4_method_6_code 37 (.iconst 1) 1 38 := ⟨by decide +kernel, rfl⟩
theorem i6_38 : Jvm.Own.Ins prog_4_method_6_code 38 (.goto 4) 3 41 := ⟨by decide +kernel, rfl⟩
theorem i6_41 : Jvm.Own.Ins prog_4_method_6_code 41 (.iconst 0) 1 42 := ⟨by decide +kernel, rfl⟩
theorem i6_42 : Jvm.Own.Ins prog_4_method_6_code 42 (.ireturn) 1 43 := ⟨by decide +kernel, rfl⟩
theorem i7_0 : Jvm.Own.Ins code 0 (.iload_n 0) 1 1 := ⟨at_0, rfl⟩
theorem i7_1 : Jvm.Own.Ins code 1 (.sipush 255) 3 4 := ⟨at_1, rfl⟩
theorem i7_4 : Jvm.Own.Ins code 4 (.iand) 1 5 := ⟨at_4, rfl⟩
theorem i7_5 : Jvm.Own.Ins code 5 (.i2c) 1 6 := ⟨at_5, rfl⟩
theorem i7_6 : Jvm.Own.Ins code 6 (.istore 4) 2 8 := ⟨at_6, rfl⟩
theorem i7_8 : Jvm.Own.Ins code 8 (.iload_n 0) 1 9 := ⟨at_8, rfl⟩
theorem i7_9 : Jvm.Own.Ins code 9 (.bipush 8) 2 11 := ⟨at_9, rfl⟩
theorem i7_11 : Jvm.Own.Ins code 11 (.iushr) 1 12 := ⟨at_11, rfl⟩
theorem i7_12 : Jvm.Own.Ins code 12 (.sipush 255) 3 15 := ⟨at_12, rfl⟩
theorem i7_15 : Jvm.Own.Ins code 15 (.iand) 1 16 := ⟨at_15, rfl⟩
theorem i7_16 : Jvm.Own.Ins code 16 (.i2c) 1 17 := ⟨at_16, rfl⟩
theorem i7_17 : Jvm.Own.Ins code 17 (.istore 5) 2 19 := ⟨at_17, rfl⟩
theorem i7_19 : Jvm.Own.Ins code 19 (.iload_n 3) 1 20 := ⟨at_19, rfl⟩
theorem i7_20 : Jvm.Own.Ins code 20 (.iconst 2) 1 21 := ⟨at_20, rfl⟩
theorem i7_21 : Jvm.Own.Ins code 21 (.iand) 1 22 := ⟨at_21, rfl⟩
theorem i7_22 : Jvm.Own.Ins code 22 (.ifCond .eq 14) 3 25 := ⟨at_22, rfl⟩
theorem i7_25 : Jvm.Own.Ins code 25 (.iload 4) 2 27 := ⟨at_25, rfl⟩
theorem i7_27 : Jvm.Own.Ins code 27 (.istore 6) 2 29 := ⟨at_27, rfl⟩
theorem i7_29 : Jvm.Own.Ins code 29 (.iload 5) 2 31 := ⟨at_29, rfl⟩
theorem i7_31 : Jvm.Own.Ins code 31 (.istore 7) 2 33 := ⟨at_31, rfl⟩
theorem i7_33 : Jvm.Own.Ins code 33 (.goto 25) 3 36 := ⟨at_33, rfl⟩
theorem i7_36 : Jvm.Own.Ins code 36 (.iload_n 0) 1 37 := ⟨at_36, rfl⟩
theorem i7_37 : Jvm.Own.Ins code 37 (.bipush 16) 2 39 := ⟨at_37, rfl⟩
theorem i7_39 : Jvm.Own.Ins code 39 (.iushr) 1 40 := ⟨at_39, rfl⟩
theorem i7_40 : Jvm.Own.Ins code 40 (.sipush 255) 3 43 := ⟨at_40, rfl⟩
theorem i7_43 : Jvm.Own.Ins code 43 (.iand) 1 44 := ⟨at_43, rfl⟩
theorem i7_44 : Jvm.Own.Ins code 44 (.i2c) 1 45 := ⟨at_44, rfl⟩
theorem i7_45 : Jvm.Own.Ins code 45 (.istore 6) 2 47 := ⟨at_45, rfl⟩
theorem i7_47 : Jvm.Own.Ins code 47 (.iload_n 0) 1 48 := ⟨at_47, rfl⟩
theorem i7_48 : Jvm.Own.Ins code 48 (.bipush 24) 2 50 := ⟨at_48, rfl⟩
theorem i7_50 : Jvm.Own.Ins code 50 (.iushr) 1 51 := ⟨at_50, rfl⟩
theorem i7_51 : Jvm.Own.Ins code 51 (.sipush 255) 3 54 := ⟨at_51, rfl⟩
theorem i7_54 : Jvm.Own.Ins code 54 (.iand) 1 55 := ⟨at_54, rfl⟩
theorem i7_55 : Jvm.Own.Ins code 55 (.i2c) 1 56 := ⟨at_55, rfl⟩
theorem i7_56 : Jvm.Own.Ins code 56 (.istore 7) 2 58 := ⟨at_56, rfl⟩
theorem i7_58 : Jvm.Own.Ins code 58 (.iload_n 3) 1 59 := ⟨at_58, rfl⟩
theorem i7_59 : Jvm.Own.Ins code 59 (.iconst 4) 1 60 := ⟨at_59, rfl⟩
theorem i7_60 : Jvm.Own.Ins code 60 (.iushr) 1 61 := ⟨at_60, rfl⟩
theorem i7_61 : Jvm.Own.Ins code 61 (.iconst 3) 1 62 := ⟨at_61, rfl⟩
theorem i7_62 : Jvm.Own.Ins code 62 (.iand) 1 63 := ⟨at_62, rfl⟩
theorem i7_63 : Jvm.Own.Ins code 63 (.iconst 2) 1 64 := ⟨at_63, rfl⟩
theorem i7_64 : Jvm.Own.Ins code 64 (.invokestatic 12) 3 67 := ⟨at_64, rfl⟩
theorem i7_67 : Jvm.Own.Ins code 67 (.istore 8) 2 69 := ⟨at_67, rfl⟩
theorem i7_69 : Jvm.Own.Ins code 69 (.iload_n 3) 1 70 := ⟨at_69, rfl⟩
theorem i7_70 : Jvm.Own.Ins code 70 (.bipush 6) 2 72 := ⟨at_70, rfl⟩
theorem i7_72 : Jvm.Own.Ins code 72 (.iushr) 1 73 := ⟨at_72, rfl⟩
theorem i7_73 : Jvm.Own.Ins code 73 (.iconst 3) 1 74 := ⟨at_73, rfl⟩
theorem i7_74 : Jvm.Own.Ins code 74 (.iand) 1 75 := ⟨at_74, rfl⟩
theorem i7_75 : Jvm.Own.Ins code 75 (.iconst 2) 1 76 := ⟨at_75, rfl⟩
theorem i7_76 : Jvm.Own.Ins code 76 (.invokestatic 12) 3 79 := ⟨at_76, rfl⟩
theorem i7_79 : Jvm.Own.Ins code 79 (.istore 9) 2 81 := ⟨at_79, rfl⟩
theorem i7_81 : Jvm.Own.Ins code 81 (.iload_n 3) 1 82 := ⟨at_81, rfl⟩
theorem i7_82 : Jvm.Own.Ins code 82 (.iconst 1) 1 83 := ⟨at_82, rfl⟩
theorem i7_83 : Jvm.Own.Ins code 83 (.iand) 1 84 := ⟨at_83, rfl⟩
theorem i7_84 : Jvm.Own.Ins code 84 (.ifCond .eq 7) 3 87 := ⟨at_84, rfl⟩
theorem i7_87 : Jvm.Own.Ins code 87 (.iload_n 1) 1 88 := ⟨at_87, rfl⟩
theorem i7_88 : Jvm.Own.Ins code 88 (.goto 4) 3 91 := ⟨at_88, rfl⟩
theorem i7_91 : Jvm.Own.Ins code 91 (.iload_n 2) 1 92 := ⟨at_91, rfl⟩
theorem i7_92 : Jvm.Own.Ins code 92 (.istore 10) 2 94 := ⟨at_92, rfl⟩
theorem i7_94 : Jvm.Own.Ins code 94 (.iload 8) 2 96 := ⟨at_94, rfl⟩
theorem i7_96 : Jvm.Own.Ins code 96 (.iload 4) 2 98 := ⟨at_96, rfl⟩
theorem i7_98 : Jvm.Own.Ins code 98 (.iload 5) 2 100 := ⟨at_98, rfl⟩
theorem i7_100 : Jvm.Own.Ins code 100 (.invokestatic 18) 3 103 := ⟨at_100, rfl⟩
theorem i7_103 : Jvm.Own.Ins code 103 (.astore 11) 2 105 := ⟨at_103, rfl⟩
theorem i7_105 : Jvm.Own.Ins code 105 (.iload 9) 2 107 := ⟨at_105, rfl⟩
theorem i7_107 : Jvm.Own.Ins code 107 (.iload 6) 2 109 := ⟨at_107, rfl⟩
theorem i7_109 : Jvm.Own.Ins code 109 (.iload 7) 2 111 := ⟨at_109, rfl⟩
theorem i7_111 : Jvm.Own.Ins code 111 (.invokestatic 18) 3 114 := ⟨at_111, rfl⟩
theorem i7_114 : Jvm.Own.Ins code 114 (.astore 12) 2 116 := ⟨at_114, rfl⟩
theorem i7_116 : Jvm.Own.Ins code 116 (.iload_n 3) 1 117 := ⟨at_116, rfl⟩
theorem i7_117 : Jvm.Own.Ins code 117 (.bipush 8) 2 119 := ⟨at_117, rfl⟩
theorem i7_119 : Jvm.Own.Ins code 119 (.iushr) 1 120 := ⟨at_119, rfl⟩
theorem i7_120 : Jvm.Own.Ins code 120 (.iconst 1) 1 121 := ⟨at_120, rfl⟩
theorem i7_121 : Jvm.Own.Ins code 121 (.iand) 1 122 := ⟨at_121, rfl⟩
theorem i7_122 : Jvm.Own.Ins code 122 (.ifCond .eq 9) 3 125 := ⟨at_122, rfl⟩
theorem i7_125 : Jvm.Own.Ins code 125 (.getstatic 24) 3 128 := ⟨at_125, rfl⟩
theorem i7_128 : Jvm.Own.Ins code 128 (.goto 6) 3 131 := ⟨at_128, rfl⟩
theorem i7_131 : Jvm.Own.Ins code 131 (.getstatic 30) 3 134 := ⟨at_131, rfl⟩
theorem i7_134 : Jvm.Own.Ins code 134 (.astore 13) 2 136 := ⟨at_134, rfl⟩
theorem i7_136 : Jvm.Own.Ins code 136 (.iload_n 3) 1 137 := ⟨at_136, rfl⟩
theorem i7_137 : Jvm.Own.Ins code 137 (.bipush 9) 2 139 := ⟨at_137, rfl⟩
theorem i7_139 : Jvm.Own.Ins code 139 (.iushr) 1 140 := ⟨at_139, rfl⟩
theorem i7_140 : Jvm.Own.Ins code 140 (.iconst 1) 1 141 := ⟨at_140, rfl⟩
theorem i7_141 : Jvm.Own.Ins code 141 (.iand) 1 142 := ⟨at_141, rfl⟩
theorem i7_142 : Jvm.Own.Ins code 142 (.ifCond .eq 9) 3 145 := ⟨at_142, rfl⟩
theorem i7_145 : Jvm.Own.Ins code 145 (.getstatic 24) 3 148 := ⟨at_145, rfl⟩
theorem i7_148 : Jvm.Own.Ins code 148 (.goto 6) 3 151 := ⟨at_148, rfl⟩
theorem i7_151 : Jvm.Own.Ins code 151 (.getstatic 30) 3 154 := ⟨at_151, rfl⟩
theorem i7_154 : Jvm.Own.Ins code 154 (.astore 14) 2 156 := ⟨at_154, rfl⟩
theorem i7_156 : Jvm.Own.Ins code 156 (.new 33) 3 159 := ⟨at_156, rfl⟩
theorem i7_159 : Jvm.Own.Ins code 159 (.dup) 1 160 := ⟨at_159, rfl⟩
theorem i7_160 : Jvm.Own.Ins code 160 (.aload 13) 2 162 := ⟨at_160, rfl⟩
theorem i7_162 : Jvm.Own.Ins code 162 (.aload 11) 2 164 := ⟨at_162, rfl⟩
theorem i7_164 : Jvm.Own.Ins code 164 (.aload 12) 2 166 := ⟨at_164, rfl⟩
theorem i7_166 : Jvm.Own.Ins code 166 (.iload_n 1) 1 167 := ⟨at_166, rfl⟩
theorem i7_167 : Jvm.Own.Ins code 167 (.i2l) 1 168 := ⟨at_167, rfl⟩
theorem i7_168 : Jvm.Own.Ins code 168 (.invokespecial 35) 3 171 := ⟨at_168, rfl⟩
theorem i7_171 : Jvm.Own.Ins code 171 (.astore 15) 2 173 := ⟨at_171, rfl⟩
theorem i7_173 : Jvm.Own.Ins code 173 (.new 33) 3 176 := ⟨at_173, rfl⟩
theorem i7_176 : Jvm.Own.Ins code 176 (.dup) 1 177 := ⟨at_176, rfl⟩
theorem i7_177 : Jvm.Own.Ins code 177 (.aload 14) 2 179 := ⟨at_177, rfl⟩
theorem i7_179 : Jvm.Own.Ins code 179 (.aload 12) 2 181 := ⟨at_179, rfl⟩
theorem i7_181 : Jvm.Own.Ins code 181 (.aload 11) 2 183 := ⟨at_181, rfl⟩
theorem i7_183 : Jvm.Own.Ins code 183 (.iload_n 2) 1 184 := ⟨at_183, rfl⟩
theorem i7_184 : Jvm.Own.Ins code 184 (.i2l) 1 185 := ⟨at_184, rfl⟩
theorem i7_185 : Jvm.Own.Ins code 185 (.invokespecial 35) 3 188 := ⟨at_185, rfl⟩
theorem i7_188 : Jvm.Own.Ins code 188 (.astore 16) 2 190 := ⟨at_188, rfl⟩
theorem i7_190 : Jvm.Own.Ins code 190 (.new 38) 3 193 := ⟨at_190, rfl⟩
theorem i7_193 : Jvm.Own.Ins code 193 (.dup) 1 194 := ⟨at_193, rfl⟩
theorem i7_194 : Jvm.Own.Ins code 194 (.aload 11) 2 196 := ⟨at_194, rfl⟩
theorem i7_196 : Jvm.Own.Ins code 196 (.aload 15) 2 198 := ⟨at_196, rfl⟩
theorem i7_198 : Jvm.Own.Ins code 198 (.iload_n 1) 1 199 := ⟨at_198, rfl⟩
theorem i7_199 : Jvm.Own.Ins code 199 (.invokespecial 40) 3 202 := ⟨at_199, rfl⟩
theorem i7_202 : Jvm.Own.Ins code 202 (.astore 17) 2 204 := ⟨at_202, rfl⟩
theorem i7_204 : Jvm.Own.Ins code 204 (.new 38) 3 207 := ⟨at_204, rfl⟩
theorem i7_207 : Jvm.Own.Ins code 207 (.dup) 1 208 := ⟨at_207, rfl⟩
theorem i7_208 : Jvm.Own.Ins code 208 (.aload 12) 2 210 := ⟨at_208, rfl⟩
theorem i7_210 : Jvm.Own.Ins code 210 (.aload 16) 2 212 := ⟨at_210, rfl⟩
theorem i7_212 : Jvm.Own.Ins code 212 (.iload 10) 2 214 := ⟨at_212, rfl⟩
theorem i7_214 : Jvm.Own.Ins code 214 (.invokespecial 40) 3 217 := ⟨at_214, rfl⟩
theorem i7_217 : Jvm.Own.Ins code 217 (.astore 18) 2 219 := ⟨at_217, rfl⟩
theorem i7_219 : Jvm.Own.Ins code 219 (.iload_n 3) 1 220 := ⟨at_219, rfl⟩
theorem i7_220 : Jvm.Own.Ins code 220 (.iconst 2) 1 221 := ⟨at_220, rfl⟩
theorem i7_221 : Jvm.Own.Ins code 221 (.iushr) 1 222 := ⟨at_221, rfl⟩
theorem i7_222 : Jvm.Own.Ins code 222 (.iconst 3) 1 223 := ⟨at_222, rfl⟩
theorem i7_223 : Jvm.Own.Ins code 223 (.iand) 1 224 := ⟨at_223, rfl⟩
theorem i7_224 : Jvm.Own.Ins code 224 (.istore 19) 2 226 := ⟨at_224, rfl⟩
theorem i7_226 : Jvm.Own.Ins code 226 (.iload 19) 2 228 := ⟨at_226, rfl⟩
theorem i7_228 : Jvm.Own.Ins code 228 (.ifCond .ne 10) 3 231 := ⟨at_228, rfl⟩
theorem i7_231 : Jvm.Own.Ins code 231 (.aload 18) 2 233 := ⟨at_231, rfl⟩
theorem i7_233 : Jvm.Own.Ins code 233 (.astore 20) 2 235 := ⟨at_233, rfl⟩
theorem i7_235 : Jvm.Own.Ins code 235 (.goto 32) 3 238 := ⟨at_235, rfl⟩
theorem i7_238 : Jvm.Own.Ins code 238 (.iload 19) 2 240 := ⟨at_238, rfl⟩
theorem i7_240 : Jvm.Own.Ins code 240 (.iconst 1) 1 241 := ⟨at_240, rfl⟩
theorem i7_241 : Jvm.Own.Ins code 241 (.if_icmp .ne 9) 3 244 := ⟨at_241, rfl⟩
theorem i7_244 : Jvm.Own.Ins code 244 (.aconst_null) 1 245 := ⟨at_244, rfl⟩
theorem i7_245 : Jvm.Own.Ins code 245 (.astore 20) 2 247 := ⟨at_245, rfl⟩
theorem i7_247 : Jvm.Own.Ins code 247 (.goto 20) 3 250 := ⟨at_247, rfl⟩
theorem i7_250 : Jvm.Own.Ins code 250 (.iload 19) 2 252 := ⟨at_250, rfl⟩
theorem i7_252 : Jvm.Own.Ins code 252 (.iconst 2) 1 253 := ⟨at_252, rfl⟩
theorem i7_253 : Jvm.Own.Ins code 253 (.if_icmp .ne 10) 3 256 := ⟨at_253, rfl⟩
theorem i7_256 : Jvm.Own.Ins code 256 (.aload 15) 2 258 := ⟨at_256, rfl⟩
theorem i7_258 : Jvm.Own.Ins code 258 (.astore 20) 2 260 := ⟨at_258, rfl⟩
theorem i7_260 : Jvm.Own.Ins code 260 (.goto 7) 3 263 := ⟨at_260, rfl⟩
theorem i7_263 : Jvm.Own.Ins code 263 (.aload 17) 2 265 := ⟨at_263, rfl⟩
theorem i7_265 : Jvm.Own.Ins code 265 (.astore 20) 2 267 := ⟨at_265, rfl⟩
theorem i7_267 : Jvm.Own.Ins code 267 (.iload 8) 2 269 := ⟨at_267, rfl⟩
theorem i7_269 : Jvm.Own.Ins code 269 (.iload 9) 2 271 := ⟨at_269, rfl⟩
theorem i7_271 : Jvm.Own.Ins code 271 (.if_icmp .ne 33) 3 274 := ⟨at_271, rfl⟩
theorem i7_274 : Jvm.Own.Ins code 274 (.iload 8) 2 276 := ⟨at_274, rfl⟩
theorem i7_276 : Jvm.Own.Ins code 276 (.iconst 1) 1 277 := ⟨at_276, rfl⟩
theorem i7_277 : Jvm.Own.Ins code 277 (.if_icmp .lt 10) 3 280 := ⟨at_277, rfl⟩
theorem i7_280 : Jvm.Own.Ins code 280 (.iload 4) 2 282 := ⟨at_280, rfl⟩
theorem i7_282 : Jvm.Own.Ins code 282 (.iload 6) 2 284 := ⟨at_282, rfl⟩
theorem i7_284 : Jvm.Own.Ins code 284 (.if_icmp .ne 20) 3 287 := ⟨at_284, rfl⟩
theorem i7_287 : Jvm.Own.Ins code 287 (.iload 8) 2 289 := ⟨at_287, rfl⟩
theorem i7_289 : Jvm.Own.Ins code 289 (.iconst 2) 1 290 := ⟨at_289, rfl⟩
theorem i7_290 : Jvm.Own.Ins code 290 (.if_icmp .lt 10) 3 293 := ⟨at_290, rfl⟩
theorem i7_293 : Jvm.Own.Ins code 293 (.iload 5) 2 295 := ⟨at_293, rfl⟩
theorem i7_295 : Jvm.Own.Ins code 295 (.iload 7) 2 297 := ⟨at_295, rfl⟩
theorem i7_297 : Jvm.Own.Ins code 297 (.if_icmp .ne 7) 3 300 := ⟨at_297, rfl⟩
theorem i7_300 : Jvm.Own.Ins code 300 (.iconst 1) 1 301 := ⟨at_300, rfl⟩
theorem i7_301 : Jvm.Own.Ins code 301 (.goto 4) 3 304 := ⟨at_301, rfl⟩
theorem i7_304 : Jvm.Own.Ins code 304 (.iconst 0) 1 305 := ⟨at_304, rfl⟩
theorem i7_305 : Jvm.Own.Ins code 305 (.istore 21) 2 307 := ⟨at_305, rfl⟩
theorem i7_307 : Jvm.Own.Ins code 307 (.iload 19) 2 309 := ⟨at_307, rfl⟩
theorem i7_309 : Jvm.Own.Ins code 309 (.ifCond .ne 24) 3 312 := ⟨at_309, rfl⟩
theorem i7_312 : Jvm.Own.Ins code 312 (.iload 21) 2 314 := ⟨at_312, rfl⟩
theorem i7_314 : Jvm.Own.Ins code 314 (.ifCond .eq 13) 3 317 := ⟨at_314, rfl⟩
theorem i7_317 : Jvm.Own.Ins code 317 (.iload_n 1) 1 318 := ⟨at_317, rfl⟩
theorem i7_318 : Jvm.Own.Ins code 318 (.iload 10) 2 320 := ⟨at_318, rfl⟩
theorem i7_320 : Jvm.Own.Ins code 320 (.if_icmp .ne 7) 3 323 := ⟨at_320, rfl⟩
theorem i7_323 : Jvm.Own.Ins code 323 (.iconst 1) 1 324 := ⟨at_323, rfl⟩
theorem i7_324 : Jvm.Own.Ins code 324 (.goto 4) 3 327 := ⟨at_324, rfl⟩
theorem i7_327 : Jvm.Own.Ins code 327 (.iconst 0) 1 328 := ⟨at_327, rfl⟩
theorem i7_328 : Jvm.Own.Ins code 328 (.istore 22) 2 330 := ⟨at_328, rfl⟩
theorem i7_330 : Jvm.Own.Ins code 330 (.goto 18) 3 333 := ⟨at_330, rfl⟩
theorem i7_333 : Jvm.Own.Ins code 333 (.iload 19) 2 335 := ⟨at_333, rfl⟩
theorem i7_335 : Jvm.Own.Ins code 335 (.iconst 3) 1 336 := ⟨at_335, rfl⟩
theorem i7_336 : Jvm.Own.Ins code 336 (.if_icmp .ne 9) 3 339 := ⟨at_336, rfl⟩
theorem i7_339 : Jvm.Own.Ins code 339 (.iconst 1) 1 340 := ⟨at_339, rfl⟩
theorem i7_340 : Jvm.Own.Ins code 340 (.istore 22) 2 342 := ⟨at_340, rfl⟩
theorem i7_342 : Jvm.Own.Ins code 342 (.goto 6) 3 345 := ⟨at_342, rfl⟩
theorem i7_345 : Jvm.Own.Ins code 345 (.iconst 0) 1 346 := ⟨at_345, rfl⟩
theorem i7_346 : Jvm.Own.Ins code 346 (.istore 22) 2 348 := ⟨at_346, rfl⟩
theorem i7_348 : Jvm.Own.Ins code 348 (.aload 17) 2 350 := ⟨at_348, rfl⟩
theorem i7_350 : Jvm.Own.Ins code 350 (.aload 20) 2 352 := ⟨at_350, rfl⟩
theorem i7_352 : Jvm.Own.Ins code 352 (.invokevirtual 43) 3 355 := ⟨at_352, rfl⟩
theorem i7_355 : Jvm.Own.Ins code 355 (.iload 22) 2 357 := ⟨at_355, rfl⟩
theorem i7_357 : Jvm.Own.Ins code 357 (.if_icmp .ne 7) 3 360 := ⟨at_357, rfl⟩
theorem i7_360 : Jvm.Own.Ins code 360 (.iconst 1) 1 361 := ⟨at_360, rfl⟩
theorem i7_361 : Jvm.Own.Ins code 361 (.goto 4) 3 364 := ⟨at_361, rfl⟩
theorem i7_365 : Jvm.Own.Ins code 365 (.ireturn) 1 366 := ⟨at_365, rfl⟩
theorem j1_14 : Jmp 1 (14) 15 := ⟨by decide, by decide⟩
theorem j2_7 : Jmp 2 (7) 9 := ⟨by decide, by decide⟩
theorem j4_37 : Jmp 4 (37) 41 := ⟨by decide, by decide⟩
theorem j6_4 : Jmp 6 (4) 10 := ⟨by decide, by decide⟩
theorem j17_18 : Jmp 17 (18) 35 := ⟨by decide, by decide⟩
theorem j22_14 : Jmp 22 (14) 36 := ⟨by decide, by decide⟩
theorem j23_18 : Jmp 23 (18) 41 := ⟨by decide, by decide⟩
theorem j33_25 : Jmp 33 (25) 58 := ⟨by decide, by decide⟩
theorem j34_7 : Jmp 34 (7) 41 := ⟨by decide, by decide⟩
theorem j38_4 : Jmp 38 (4) 42 := ⟨by decide, by decide⟩
theorem j84_7 : Jmp 84 (7) 91 := ⟨by decide, by decide⟩
theorem j88_4 : Jmp 88 (4) 92 := ⟨by decide, by decide⟩
theorem j122_9 : Jmp 122 (9) 131 := ⟨by decide, by decide⟩
theorem j128_6 : Jmp 128 (6) 134 := ⟨by decide, by decide⟩
theorem j142_9 : Jmp 142 (9) 151 := ⟨by decide, by decide⟩
theorem j148_6 : Jmp 148 (6) 154 := ⟨by decide, by decide⟩
theorem j228_10 : Jmp 228 (10) 238 := ⟨by decide, by decide⟩
theorem j235_32 : Jmp 235 (32) 267 := ⟨by decide, by decide⟩
theorem j241_9 : Jmp 241 (9) 250 := ⟨by decide, by decide⟩
theorem j247_20 : Jmp 247 (20) 267 := ⟨by decide, by decide⟩
theorem j253_10 : Jmp 253 (10) 263 := ⟨by decide, by decide⟩
theorem j260_7 : Jmp 260 (7) 267 := ⟨by decide, by decide⟩
theorem j271_33 : Jmp 271 (33) 304 := ⟨by decide, by decide⟩
theorem j277_10 : Jmp 277 (10) 287 := ⟨by decide, by decide⟩
theorem j284_20 : Jmp 284 (20) 304 := ⟨by decide, by decide⟩
theorem j290_10 : Jmp 290 (10) 300 := ⟨by decide, by decide⟩
theorem j297_7 : Jmp 297 (7) 304 := ⟨by decide, by decide⟩
theorem j301_4 : Jmp 301 (4) 305 := ⟨by decide, by decide⟩
theorem j309_24 : Jmp 309 (24) 333 := ⟨by decide, by decide⟩
theorem j314_13 : Jmp 314 (13) 327 := ⟨by decide, by decide⟩
theorem j320_7 : Jmp 320 (7) 327 := ⟨by decide, by decide⟩
theorem j324_4 : Jmp 324 (4) 328 := ⟨by decide, by decide⟩
theorem j330_18 : Jmp 330 (18) 348 := ⟨by decide, by decide⟩
theorem j336_9 : Jmp 336 (9) 345 := ⟨by decide, by decide⟩
theorem j342_6 : Jmp 342 (6) 348 := ⟨by decide, by decide⟩
theorem j361_4 : Jmp 361 (4) 365 := ⟨by decide, by decide⟩
theorem own_wS {Z : State} {a0 : Array Value} (hw : ∀ d ∈ tables_1, d.before a0 Z = true) : ∀ a ∈ Bundle.stringAtoms, a.before a0 Z = true := by
  intro a ha
  simp only [Bundle.stringAtoms, List.mem_cons, List.not_mem_nil, or_false] at ha
  rcases ha with rfl | rfl | rfl | rfl | rfl | rfl | rfl
  · exact hw _ wd_10
  · exact hw _ wd_9
  · exact hw _ wd_23
  · exact hw _ wd_24
  · exact hw _ wd_25
  · exact hw _ wd_26
  · exact hw _ wd_27
end Jvm.Pilot.@@N@@
namespace Jvm.Pilot.@@N@@
open Jvm Jvm.ClassFile Sem Op Lib Jvm.Free Jvm.Stand Jvm.LawKit Jvm.RoadKit Bundle Jvm.Own Jvm.Pilot.@@N@@.Jvm.D
section OwnStr
variable {C : Cx} {R : Room} {own : String} {b : ByteArray} {ml : Nat} {rt : Option FieldType} {nm : String} {q : Bool} {Z : State} {a0 : Array Value} {EL : List (String × Nat)} {n0 : Nat} {vm : Vm} {T : State} {h : Heap} {k n : Nat} {Q : Option Value → Heap → Prop} {pc pc' pt : Nat} {Ls Ls' : Array Slot} {st : List Value}
theorem own_strInit (X : On C R own b ml rt nm q Z a0 EL n0 vm T h k n) (hw : ∀ d ∈ tables_1, d.before a0 Z = true) {ix W k' n' : Nat} {x c0 : Addr} {kC : ClassId} {cs : List Int32} {d v0 w0 : Value} {z N : Int32} (hi : Jvm.Own.Ins b pc (.invokespecial ix) 3 pc')
    (w1 : (Cond.methodLink own ix ⟨"java/lang/String", "<init>", "([C)V"⟩).before a0 Z = true) (gx : n0 ≤ x) (E : Exa Z h x "java/lang/String") (V : Fld Z h x "java/lang/String" "value" "[B" v0) (W0 : Fld Z h x "java/lang/String" "coder" "B" w0) (K : Arv Z h c0 kC .char N (cs.map Value.int) d) (hN : N = Int32.ofNat cs.length) (l0 : 0 < cs.length) (l2 : cs.length ≤ 4000)
    (hp : ∀ c ∈ cs, ¬ c < 0 ∧ ¬ (255 : Int32) < c) (S : Sta Z Z.heap "java/lang/String" "COMPACT_STRINGS" "Z" (.int z)) (hz : ¬ z = 0) (Sf : Safe Z EL vm h x) (hsz : Ls.size = ml) (hW : 0 + (st.map fun v => v.category).sum = W) (hfr : 4 ≤ R.frames) (hlo : W + 65 ≤ R.locals)
    (hk' : k + 1 = k') (hn' : n + cs.length = n') (hc : k' ≤ R.cells) (hsl : n' ≤ R.slots)
    (g : ∀ T' h' t kb, On C R own b ml rt nm q Z a0 EL n0 vm T' h' k' n' → Keep h h' [x] → h.size ≤ t → Str Z h' x t kb cs → Go C R q Z EL n0 Q T' pc' Ls st) : Go C R q Z EL n0 Q T pc Ls (.ref c0 :: .ref x :: st) := by
  have hws : ∀ d ∈ StrChars.Road.words, d.before a0 Z = true := fun d hd => hw d ((by decide +kernel : ∀ d ∈ StrChars.Road.words, d ∈ tables_1) d hd)
  refine X.backI (W := W) (a := x) (argsL := [.ref c0]) hi (StrChars.Road.backV (W := W) X.zw hws (kI := 4) (hw _ wd_9) (cs := cs) (bs := cs.map fun c => c.toInt8.toInt32) (n := cs.length) gx X.n0le E V W0 K (S.ext X.ext0) hz rfl hN l0 l2 hp rfl hfr hlo) (fun v h' L hq => ⟨hq.2.1, CHr.keep hq.2.2.1 (sfS Sf sf0) X.chv, X.old.keep hq.2.2.1 (allS gx all0)⟩) w1 (hw _ wd_13) (hw _ wd_14) rfl (by decide) pd1 rfl rfl hsz hW hk' hn' hc hsl ?_
  rintro T' h' v L X' ⟨rfl, -, K', E', D', t, kb, -, ht, -, V', A'⟩
  refine g T' h' t kb X' K' ht ⟨E', V', D', ?_, hp⟩
  rw [hN, List.map_map] at A'; exact A'
theorem own_strEq (X : On C R own b ml rt nm q Z a0 EL n0 vm T h k n) (hw : ∀ d ∈ tables_1, d.before a0 Z = true) {ix W : Nat} {x y t t' : Addr} {kb kb' : ClassId} {cs ds : List Int32} {z : Int32} (hi : Jvm.Own.Ins b pc (.invokevirtual ix) 3 pc')
    (w1 : (Cond.methodLink own ix ⟨"java/lang/String", "equals", "(Ljava/lang/Object;)Z"⟩).before a0 Z = true) (F : Str Z h x t kb cs) (F' : Str Z h y t' kb' ds) (l2 : cs.length ≤ 4000) (l2' : ds.length ≤ 4000)
    (S : Sta Z Z.heap "java/lang/String" "COMPACT_STRINGS" "Z" (.int z)) (hz : ¬ z = 0) (hsz : Ls.size = ml) (hW : 0 + (st.map fun v => v.category).sum = W) (hfr : 2 ≤ R.frames) (hlo : W + 28 ≤ R.locals) (hc : k ≤ R.cells) (hsl : n ≤ R.slots)
    (g : ∀ T' r, On C R own b ml rt nm q Z a0 EL n0 vm T' h k n → ((r = 1 ∧ cs = ds) ∨ (r = 0 ∧ ¬ cs = ds)) → Go C R q Z EL n0 Q T' pc' Ls (.int r :: st)) : Go C R q Z EL n0 Q T pc Ls (.ref y :: .ref x :: st) := by
  have hws : ∀ d ∈ StrChars.Road.wordsEq, d.before a0 Z = true := fun d hd => hw d ((by decide +kernel : ∀ d ∈ StrChars.Road.wordsEq, d ∈ tables_1) d hd)
  refine X.backVt (W := W) (a := x) (argsL := [.ref y]) (QQ := fun v h' L => ((v = some (.int 1) ∧ cs = ds) ∨ (v = some (.int 0) ∧ ¬ cs = ds)) ∧ L = [] ∧ h' = h) hi (StrChars.Road.eqW (W := W) X.zw hws (kI := 4) (hw _ wd_9) F.1 F.2.1 F.2.2.1 F.2.2.2.1 (Or.inl ⟨rfl, rfl, rfl, fun c hc => (F.2.2.2.2 c hc).2⟩) (fun c hc => up16 (F.2.2.2.2 c hc)) l2 F'.1 F'.2.1 F'.2.2.1 F'.2.2.2.1 (Or.inl ⟨rfl, rfl, rfl, fun c hc => (F'.2.2.2.2 c hc).2⟩) (fun c hc => up16 (F'.2.2.2.2 c hc)) l2' (S.ext X.ext0) hz hfr hlo) (fun v h' L hq => ⟨by rw [hq.2.1]; exact Fr.nil _, by rw [hq.2.2]; exact CHr.refl X.chv, by rw [hq.2.2]; exact X.old⟩) F.1 w1 (hw _ wd_69) (hw _ wd_71) (nfSel X.zw (hw _ wd_71)) (hw _ wd_70) (by decide) pd6 rfl rfl hsz hW rfl rfl hc hsl ?_
  rintro T' h' v L X' ⟨hv, -, rfl⟩
  rcases hv with ⟨rfl, e⟩ | ⟨rfl, e⟩
  · exact g T' 1 X' (Or.inl ⟨rfl, e⟩)
  · exact g T' 0 X' (Or.inr ⟨rfl, e⟩)
end OwnStr
end Jvm.Pilot.@@N@@
namespace Jvm.Pilot.@@N@@
open Jvm Jvm.ClassFile Sem Op Lib Jvm.Free Jvm.Stand Jvm.LawKit Jvm.RoadKit Bundle Jvm.Own Jvm.Pilot.@@N@@.Jvm.D
def own_mk (n x y : Int32) : List Int32 := if n = 0 then [] else if n = 1 then [x] else [x, y]
theorem own_mk0 (x y : Int32) : own_mk 0 x y = [] := by simp [own_mk]
theorem own_mk1 (x y : Int32) : own_mk 1 x y = [x] := by simp [own_mk]
theorem own_mk2 (x y : Int32) : own_mk 2 x y = [x, y] := by simp [own_mk]
theorem own_mklen (n x y : Int32) : (own_mk n x y).length ≤ 4000 := by
  unfold own_mk
  split
  · simp
  · split <;> simp
abbrev own_lat (c : Int32) : Prop := ¬ c < 0 ∧ ¬ (255 : Int32) < c
theorem own_latr {c : Int32} (h : own_lat c) : 0 ≤ c.toInt ∧ c.toInt ≤ 255 := by
  have e0 : (0 : Int32).toInt = 0 := by decide
  have e1 : (255 : Int32).toInt = 255 := by decide
  have h1 : ¬ c.toInt < 0 := fun z => h.1 (Int32.lt_iff_toInt_lt.mpr (by omega))
  have h2 : ¬ 255 < c.toInt := fun z => h.2 (Int32.lt_iff_toInt_lt.mpr (by omega))
  omega
theorem own_i2c {c : Int32} (h : own_lat c) : c.toUInt32.toUInt16.toUInt32.toInt32 = c := by
  have q := c_i2c c
  have r := own_latr h
  apply Int32.toInt_inj.mp
  omega
theorem own_and3 (x : Int32) : x &&& 3 = 0 ∨ x &&& 3 = 1 ∨ x &&& 3 = 2 ∨ x &&& 3 = 3 := by
  have q := c_mask x 3 2 (by decide) (by decide)
  have e0 : (0 : Int32).toInt = 0 := by decide
  have e1 : (1 : Int32).toInt = 1 := by decide
  have e2 : (2 : Int32).toInt = 2 := by decide
  have e3 : (3 : Int32).toInt = 3 := by decide
  have r : (x &&& 3).toInt = 0 ∨ (x &&& 3).toInt = 1 ∨ (x &&& 3).toInt = 2 ∨ (x &&& 3).toInt = 3 := by omega
  rcases r with r | r | r | r
  · exact Or.inl (Int32.toInt_inj.mp (r.trans e0.symm))
  · exact Or.inr (Or.inl (Int32.toInt_inj.mp (r.trans e1.symm)))
  · exact Or.inr (Or.inr (Or.inl (Int32.toInt_inj.mp (r.trans e2.symm))))
  · exact Or.inr (Or.inr (Or.inr (Int32.toInt_inj.mp (r.trans e3.symm))))
theorem own_min3 {m r : Int32} (h : (r = (m &&& (3 : Int32)) ∧ ¬ (2 : Int32) < (m &&& (3 : Int32))) ∨ (r = (2 : Int32) ∧ (2 : Int32) < (m &&& (3 : Int32)))) : r = 0 ∨ r = 1 ∨ r = 2 := by
  rcases own_and3 m with e | e | e | e <;> rw [e] at h <;> rcases h with ⟨rfl, h⟩ | ⟨rfl, h⟩ <;> first | exact Or.inl rfl | exact Or.inr (Or.inl rfl) | exact Or.inr (Or.inr rfl) | exact absurd h (by decide)
set_option maxRecDepth 65536 in
set_option maxHeartbeats 40000000 in
theorem c_min (l : Launch) {Z : State} {a0 : Array Value} {n0 : Nat} (hw : ∀ d ∈ tables_1, d.before a0 Z = true) (hEL : EW Z a0 own_EL) {zc : Int32} (hcs : Sta Z Z.heap "java/lang/String" "COMPACT_STRINGS" "Z" (.int zc)) (hcz : ¬ zc = 0) {h : Heap} (hO : Old Z n0 h) (x : Int32) (y : Int32)  :
    Con [] false l Z own_EL n0 [] (⟨"java/lang/Math", "min", "(II)I"⟩ : MethodName) jdk_29_method_69_code 2 (some .int) ({ frames := 0, cells := 0, slots := 0, locals := 0 } : Room) #[(.int x), (.int y)] h (fun v h' => ∃ (r : Int32), v = some (.int r) ∧ h = h' ∧ ((r = x ∧ ¬ y < x) ∨ (r = y ∧ y < x))) := by
  refine Con.intro (Ls := #[.val (.int x), .val (.int y)]) pn0 hEL hO (fun m => by first | rfl | (simp [entryFrame, mkF, argsToLocals, Value.category]; done)) fun C vm T hl X hs => ?_
  have X : On C ({ frames := 0, cells := 0, slots := 0, locals := 0 } : Room) "java/lang/Math" jdk_29_method_69_code 2 (some .int) "min" false Z a0 own_EL n0 vm T h 0 0 := X
  refine X.iload_n i0_0 rfl ?_
  refine X.iload_n i0_1 rfl ?_
  by_cases hc : y < x
  · skip
    refine X.icY i0_2 j2_7 (XT.ii_gt_t hc) ?_
    refine X.iload_n i0_9 rfl ?_
    exact X.ireturn i0_10 (t := .int) rfl (by decide) rfl (by decide) (by decide) ⟨y, rfl, rfl, Or.inr ⟨rfl, hc⟩⟩
  · skip
    refine X.icN i0_2 (XT.ii_gt_f hc) ?_
    refine X.iload_n i0_5 rfl ?_
    refine X.goto i0_6 j6_4 ?_
    exact X.ireturn i0_10 (t := .int) rfl (by decide) rfl (by decide) (by decide) ⟨x, rfl, rfl, Or.inl ⟨rfl, hc⟩⟩
set_option maxRecDepth 65536 in
set_option maxHeartbeats 40000000 in
theorem c_se4 (l : Launch) {Z : State} {a0 : Array Value} {n0 : Nat} (hw : ∀ d ∈ tables_1, d.before a0 Z = true) (hEL : EW Z a0 own_EL) {zc : Int32} (hcs : Sta Z Z.heap "java/lang/String" "COMPACT_STRINGS" "Z" (.int zc)) (hcz : ¬ zc = 0) {h : Heap} (hO : Old Z n0 h) (x : Addr) (c0 : Addr) (E_x : Exa Z h x "java/lang/String") (g_x : n0 ≤ x) (F_v : Fld Z h x "java/lang/String" "value" "[B" .null) (F_c : Fld Z h x "java/lang/String" "coder" "B" (.int (0 : Int32))) :
    Con [] false l Z own_EL n0 [x] (⟨"java/lang/String", "<init>", "([CIILjava/lang/Void;)V"⟩ : MethodName) jdk_42_method_149_code 6 none ({ frames := 1, cells := 4, slots := 8, locals := 12 } : Room) #[(.ref x), (.ref c0), (.int (0 : Int32)), (.int (0 : Int32)), .null] h (fun v h' => ∃ (t : Addr) (kb : ClassId), v = none ∧ Keep h h' [x] ∧ Str Z h' x t kb ([] : List Int32)) := by
  refine Con.intro (Ls := #[.val (.ref x), .val (.ref c0), .val (.int (0 : Int32)), .val (.int (0 : Int32)), .val .null, .unset]) pn1 hEL hO (fun m => by first | rfl | (simp [entryFrame, mkF, argsToLocals, Value.category]; done)) fun C vm T hl X hs => ?_
  have X : On C ({ frames := 1, cells := 4, slots := 8, locals := 12 } : Room) "java/lang/String" jdk_42_method_149_code 6 none "<init>" false Z a0 own_EL n0 vm T h 0 0 := X
  have sf_x := hs x (List.mem_of_getElem? (i := 0) rfl)
  refine X.aload_n i1_0 rfl rfl ?_
  refine X.initO i1_1 (hw _ wd_19) (hw _ wd_20) (hw _ wd_21) rfl (by decide) (W := 0) rfl (by decide) fun T1 X1 => ?_
  refine X1.iload_n i1_4 rfl ?_
  refine X1.ifN i1_5 (by decide) ?_
  refine X1.aload_n i1_8 rfl rfl ?_
  refine X1.ldcS rfl (cs := ([] : List Int32)) i1_9 (hw _ wd_22) (own_wS hw) (List.mem_of_getElem? (i := 0) rfl) lt0_a lt0_b lt0_c (Nat.le_of_ble_eq_true rfl) (nn := 0) (Nat.le_of_eq lt0_d) (by decide) (k' := 2) rfl (n' := 4) rfl (by decide) (by decide) fun vm2 T2 h2 a2 t2 b2 X2 E2 r2 S2 ne2 => ?_
  have Sf3 := (r2).safe (E_x).lt sf_x
  refine X2.getfield i1_11 (hw _ wd_28) Via.refl S2.2.1 fun T4 X4 => ?_
  have F5 := (F_v.ext E2)
  have E6 := (E_x.ext E2)
  refine X4.putfield i1_14 (hw _ wd_28) Via.refl F5 E6 (Or.inr ⟨(hw _ wd_24), rfl, rfl⟩) (hw _ wd_9) (ty := (.array .byte)) (by decide) rfl rfl g_x Sf3 fun T7 h7 X7 W7 => ?_
  refine X7.aload_n i1_17 rfl rfl ?_
  refine X7.ldcS rfl (cs := ([] : List Int32)) i1_18 (hw _ wd_22) (own_wS hw) (List.mem_of_getElem? (i := 0) rfl) lt0_a lt0_b lt0_c (Nat.le_of_ble_eq_true rfl) (nn := 0) (Nat.le_of_eq lt0_d) (by decide) (k' := 4) rfl (n' := 8) rfl (by decide) (by decide) fun vm8 T8 h8 a8 t8 b8 X8 E8 r8 S8 ne8 => ?_
  refine X8.getfield i1_20 (hw _ wd_29) Via.refl S8.2.2.1 fun T9 X9 => ?_
  have F10 := (((F_c.ext E2).other W7 (Or.inr (slot_ne (Or.inr (hw _ wd_25)) (Or.inr (hw _ wd_24)) (by decide) (t := .byte) (t' := (.array .byte)) (by decide) (by decide)))).ext E8)
  have E11 := ((E6.wr W7).ext E8)
  have Sf13 := (((CHr.wr W7 Sf3 X4.chv)).trans r8).safe (E6).lt Sf3
  refine X9.putfield i1_23 (hw _ wd_29) Via.refl F10 E11 (Or.inr ⟨(hw _ wd_25), rfl, rfl⟩) (hw _ wd_9) (ty := .byte) (by decide) rfl rfl g_x Sf13 fun T12 h12 X12 W12 => ?_
  have E14 := (E11.wr W12)
  have F15 := (((F5.same W7).ext E8).other W12 (Or.inr (slot_ne (Or.inr (hw _ wd_24)) (Or.inr (hw _ wd_25)) (by decide) (t := (.array .byte)) (t' := .byte) (by decide) (by decide))))
  have V16 := (((S2.2.2.2.1.other W7 (Ne.symm (ne2 x Sf3).2)).ext E8).other W12 (Ne.symm (ne2 x Sf3).2))
  exact X12.ret i1_26 rfl (by decide) (by decide) ⟨t2, b2, rfl, (((((Keep.refl _ [x]).ext E2).wr W7 (Or.inl (List.mem_of_getElem? (i := 0) rfl))).ext E8).wr W12 (Or.inl (List.mem_of_getElem? (i := 0) rfl))), ⟨E14, F15, (F10.same W12), V16, own_all0⟩⟩
set_option maxRecDepth 65536 in
set_option maxHeartbeats 40000000 in
theorem c_se1 (l : Launch) {Z : State} {a0 : Array Value} {n0 : Nat} (hw : ∀ d ∈ tables_1, d.before a0 Z = true) (hEL : EW Z a0 own_EL) {zc : Int32} (hcs : Sta Z Z.heap "java/lang/String" "COMPACT_STRINGS" "Z" (.int zc)) (hcz : ¬ zc = 0) {h : Heap} (hO : Old Z n0 h) (x : Addr) (c0 : Addr) (kc : ClassId) (d0 : Value) (E_x : Exa Z h x "java/lang/String") (g_x : n0 ≤ x) (F_v : Fld Z h x "java/lang/String" "value" "[B" .null) (F_c : Fld Z h x "java/lang/String" "coder" "B" (.int (0 : Int32))) (V_c : Arv Z h c0 kc .char (0 : Int32) [] d0) :
    Con [] false l Z own_EL n0 [x] (⟨"java/lang/String", "<init>", "([C)V"⟩ : MethodName) jdk_42_method_3_code 2 none ({ frames := 2, cells := 4, slots := 8, locals := 29 } : Room) #[(.ref x), (.ref c0)] h (fun v h' => ∃ (t : Addr) (kb : ClassId), v = none ∧ Keep h h' [x] ∧ Str Z h' x t kb ([] : List Int32)) := by
  refine Con.intro (Ls := #[.val (.ref x), .val (.ref c0)]) pn2 hEL hO (fun m => by first | rfl | (simp [entryFrame, mkF, argsToLocals, Value.category]; done)) fun C vm T hl X hs => ?_
  have X : On C ({ frames := 2, cells := 4, slots := 8, locals := 29 } : Room) "java/lang/String" jdk_42_method_3_code 2 none "<init>" false Z a0 own_EL n0 vm T h 0 0 := X
  have sf_x := hs x (List.mem_of_getElem? (i := 0) rfl)
  refine X.aload_n i2_0 rfl rfl ?_
  refine X.aload_n i2_1 rfl rfl ?_
  refine X.iconst i2_2 (z := (0 : Int32)) rfl ?_
  refine X.aload_n i2_3 rfl rfl ?_
  refine X.arraylength i2_4 V_c ?_
  refine X.aconst_null i2_5 ?_
  refine X.callI hl (argsL := [(.ref c0), (.int (0 : Int32)), (.int (0 : Int32)), .null]) (a := x) i2_6 (c_se4 l hw hEL hcs hcz X.old x c0 E_x g_x F_v F_c) (hw _ wd_15) (hw _ wd_16) (hw _ wd_10) (hw _ wd_18) rfl (by decide) (sf_cons ⟨sf_x, (E_x).lt⟩ sf_nil) pd0 rfl rfl rfl (W := 0) rfl (by decide) (by decide) (k' := 4) rfl (n' := 8) rfl (by decide) (by decide) fun vm1 T1 h1 v1 X1 r1 Q1 => ?_
  obtain ⟨t_1, kb_1, rfl, q1_0, q1_1⟩ := Q1
  show Go _ _ _ _ _ _ _ T1 9 #[.val (.ref x), .val (.ref c0)] []
  exact X1.ret i2_9 rfl (by decide) (by decide) ⟨t_1, kb_1, rfl, ((Keep.refl _ [x]).trans q1_0 (allS (Or.inl (List.mem_of_getElem? (i := 0) rfl)) all0)), q1_1⟩
set_option maxRecDepth 65536 in
set_option maxHeartbeats 40000000 in
theorem c_mk (l : Launch) {Z : State} {a0 : Array Value} {n0 : Nat} (hw : ∀ d ∈ tables_1, d.before a0 Z = true) (hEL : EW Z a0 own_EL) {zc : Int32} (hcs : Sta Z Z.heap "java/lang/String" "COMPACT_STRINGS" "Z" (.int zc)) (hcz : ¬ zc = 0) {h : Heap} (hO : Old Z n0 h) (n : Int32) (x : Int32) (y : Int32) (hn : n = 0 ∨ n = 1 ∨ n = 2) (lx : own_lat x) (ly : own_lat y) :
    Con [] false l Z own_EL n0 [] (⟨"com/example/tranche/tranche/DeliveryEqualsPinLaw", "mk", "(ICC)Ljava/lang/String;"⟩ : MethodName) method_2_code 3 (some (.object "java/lang/String")) ({ frames := 4, cells := 6, slots := 12, locals := 66 } : Room) #[(.int n), (.int x), (.int y)] h (fun v h' => ∃ (r : Addr) (t : Addr) (kb : ClassId), v = some (.ref r) ∧ Ext h h' ∧ h.size ≤ r ∧ Str Z h' r t kb (own_mk n x y)) := by
  refine Con.intro (Ls := #[.val (.int n), .val (.int x), .val (.int y)]) pn3 hEL hO (fun m => by first | rfl | (simp [entryFrame, mkF, argsToLocals, Value.category]; done)) fun C vm T hl X hs => ?_
  have X : On C ({ frames := 4, cells := 6, slots := 12, locals := 66 } : Room) "com/example/tranche/tranche/DeliveryEqualsPinLaw" method_2_code 3 (some (.object "java/lang/String")) "mk" false Z a0 own_EL n0 vm T h 0 0 := X
  rcases hn with rfl | rfl | rfl
  · skip
    refine X.iload_n i3_0 rfl ?_
    refine X.ifN i3_1 (by decide) ?_
    refine X.new i3_4 (hw _ wd_8) (hw _ wd_9) (hw _ wd_10) (k' := 1) rfl (n' := 4) rfl (by decide) (by decide) fun T1 h1 a1 X1 E1 z1 g1 A1 D1 U1 Sf1 => ?_
    refine X1.dup i3_7 rfl ?_
    refine X1.iconst i3_8 (z := (0 : Int32)) rfl ?_
    refine X1.newarray i3_9 (ty := .char) rfl (hw _ wd_11) (by decide) (cap := 0) (by decide) (by decide) (k' := 2) rfl (n' := 4) rfl (by decide) (by decide) fun T2 h2 a2 c2 X2 E2 z2 g2 V2 Sf2 => ?_
    have V2 : Arv Z h2 a2 c2 .char (0 : Int32) [] (.int (0 : Int32)) := V2.pad (pad_rep [] (.int (0 : Int32)) 0)
    have E3 := (A1.ext E2)
    have F4 : Fld Z h1 a1 "java/lang/String" "value" "[B" .null := D1 (Or.inr (hw _ wd_24)) (ty := (.array .byte)) (by decide)
    have F5 := (F4.ext E2)
    have F6 : Fld Z h1 a1 "java/lang/String" "coder" "B" (.int (0 : Int32)) := D1 (Or.inr (hw _ wd_25)) (ty := .byte) (by decide)
    have F7 := (F6.ext E2)
    have Sf9 := ((CHr.ext E2 X1.chv)).safe (A1).lt Sf1
    refine X2.callI hl (argsL := [(.ref a2)]) (a := a1) i3_11 (c_se1 l hw hEL hcs hcz X2.old a1 a2 c2 (.int (0 : Int32)) E3 g1 F5 F7 V2) (hw _ wd_12) (hw _ wd_13) (hw _ wd_10) (hw _ wd_14) rfl (by decide) (sf_cons ⟨Sf9, (E3).lt⟩ sf_nil) pd1 rfl rfl rfl (W := 1) rfl (by decide) (by decide) (k' := 6) rfl (n' := 12) rfl (by decide) (by decide) fun vm8 T8 h8 v8 X8 r8 Q8 => ?_
    obtain ⟨t_8, kb_8, rfl, q8_0, q8_1⟩ := Q8
    show Go _ _ _ _ _ _ _ T8 14 #[.val (.int (0 : Int32)), .val (.int x), .val (.int y)] [(.ref a1)]
    have Sr : Str Z h8 a1 t_8 kb_8 (own_mk 0 x y) := by rw [own_mk0]; exact q8_1
    exact X8.areturn i3_14 rfl rfl rfl (by decide) (by decide) ⟨a1, t_8, kb_8, rfl, (ext_keep (ext_trans E1 E2) q8_0 (allS (Nat.le_of_eq z1) all0)), (Nat.le_of_eq z1), Sr⟩
  · skip
    refine X.iload_n i3_0 rfl ?_
    refine X.ifY i3_1 j1_14 (by decide) ?_
    refine X.iload_n i3_15 rfl ?_
    refine X.iconst i3_16 (z := (1 : Int32)) rfl ?_
    refine X.icN i3_17 (by decide) ?_
    refine X.new i3_20 (hw _ wd_8) (hw _ wd_9) (hw _ wd_10) (k' := 1) rfl (n' := 4) rfl (by decide) (by decide) fun T10 h10 a10 X10 E10 z10 g10 A10 D10 U10 Sf10 => ?_
    refine X10.dup i3_23 rfl ?_
    refine X10.iconst i3_24 (z := (1 : Int32)) rfl ?_
    refine X10.newarray i3_25 (ty := .char) rfl (hw _ wd_11) (by decide) (cap := 1) (by decide) (by decide) (k' := 2) rfl (n' := 5) rfl (by decide) (by decide) fun T11 h11 a11 c11 X11 E11 z11 g11 V11 Sf11 => ?_
    have V11 : Arv Z h11 a11 c11 .char (1 : Int32) [(.int (0 : Int32))] (.int (0 : Int32)) := V11.pad (pad_rep [] (.int (0 : Int32)) 1)
    refine X11.dup i3_27 rfl ?_
    refine X11.iconst i3_28 (z := (0 : Int32)) rfl ?_
    refine X11.iload_n i3_29 rfl ?_
    refine X11.castore i3_30 V11 ⟨by decide, by decide⟩ (i := 0) rfl (Nat.le_of_ble_eq_true rfl) (y := x) (own_i2c lx) g11 fun T12 h12 X12 W12 V12 => ?_
    have V12 : Arv Z h12 a11 c11 .char (1 : Int32) [(.int x)] (.int (0 : Int32)) := V12
    have E14 := ((A10.ext E11).wr W12)
    have F15 : Fld Z h10 a10 "java/lang/String" "value" "[B" .null := D10 (Or.inr (hw _ wd_24)) (ty := (.array .byte)) (by decide)
    have F16 := ((F15.ext E11).other W12 (Or.inl (Nat.ne_of_lt (Nat.lt_of_lt_of_le (A10).lt (Nat.le_of_eq z11)))))
    have F17 : Fld Z h10 a10 "java/lang/String" "coder" "B" (.int (0 : Int32)) := D10 (Or.inr (hw _ wd_25)) (ty := .byte) (by decide)
    have F18 := ((F17.ext E11).other W12 (Or.inl (Nat.ne_of_lt (Nat.lt_of_lt_of_le (A10).lt (Nat.le_of_eq z11)))))
    have Sf19 := (((CHr.ext E11 X10.chv)).trans (CHr.wr W12 (Safe.arv X11.zw.alike V11 (by simp)) X11.chv)).safe (A10).lt Sf10
    have hp13 : ∀ c ∈ ([x] : List Int32), ¬ c < 0 ∧ ¬ (255 : Int32) < c := (own_allS lx own_all0)
    refine own_strInit X12 hw (cs := [x]) (c0 := a11) i3_31 (hw _ wd_12) g10 E14 F16 F18 V12 rfl (Nat.le_of_ble_eq_true rfl) (Nat.le_of_ble_eq_true rfl) hp13 hcs hcz Sf19 rfl (W := 1) rfl (by decide) (by decide) (k' := 3) rfl (n' := 6) rfl (by decide) (by decide) fun T13 h13 t13 b13 X13 K13 y13 S13 => ?_
    have Sr : Str Z h13 a10 t13 b13 (own_mk 1 x y) := by rw [own_mk1]; exact S13
    exact X13.areturn i3_34 rfl rfl rfl (by decide) (by decide) ⟨a10, t13, b13, rfl, (ext_keep (ext_wr (ext_trans E10 E11) W12 (Nat.le_trans E10.1 (Nat.le_of_eq z11))) K13 (allS (Nat.le_of_eq z10) all0)), (Nat.le_of_eq z10), Sr⟩
  · skip
    refine X.iload_n i3_0 rfl ?_
    refine X.ifY i3_1 j1_14 (by decide) ?_
    refine X.iload_n i3_15 rfl ?_
    refine X.iconst i3_16 (z := (1 : Int32)) rfl ?_
    refine X.icY i3_17 j17_18 (by decide) ?_
    refine X.new i3_35 (hw _ wd_8) (hw _ wd_9) (hw _ wd_10) (k' := 1) rfl (n' := 4) rfl (by decide) (by decide) fun T20 h20 a20 X20 E20 z20 g20 A20 D20 U20 Sf20 => ?_
    refine X20.dup i3_38 rfl ?_
    refine X20.iconst i3_39 (z := (2 : Int32)) rfl ?_
    refine X20.newarray i3_40 (ty := .char) rfl (hw _ wd_11) (by decide) (cap := 2) (by decide) (by decide) (k' := 2) rfl (n' := 6) rfl (by decide) (by decide) fun T21 h21 a21 c21 X21 E21 z21 g21 V21 Sf21 => ?_
    have V21 : Arv Z h21 a21 c21 .char (2 : Int32) [(.int (0 : Int32)), (.int (0 : Int32))] (.int (0 : Int32)) := V21.pad (pad_rep [] (.int (0 : Int32)) 2)
    refine X21.dup i3_42 rfl ?_
    refine X21.iconst i3_43 (z := (0 : Int32)) rfl ?_
    refine X21.iload_n i3_44 rfl ?_
    refine X21.castore i3_45 V21 ⟨by decide, by decide⟩ (i := 0) rfl (Nat.le_of_ble_eq_true rfl) (y := x) (own_i2c lx) g21 fun T22 h22 X22 W22 V22 => ?_
    have V22 : Arv Z h22 a21 c21 .char (2 : Int32) [(.int x), (.int (0 : Int32))] (.int (0 : Int32)) := V22
    refine X22.dup i3_46 rfl ?_
    refine X22.iconst i3_47 (z := (1 : Int32)) rfl ?_
    refine X22.iload_n i3_48 rfl ?_
    refine X22.castore i3_49 V22 ⟨by decide, by decide⟩ (i := 1) rfl (Nat.le_of_ble_eq_true rfl) (y := y) (own_i2c ly) g21 fun T23 h23 X23 W23 V23 => ?_
    have V23 : Arv Z h23 a21 c21 .char (2 : Int32) [(.int x), (.int y)] (.int (0 : Int32)) := V23
    have E25 := (((A20.ext E21).wr W22).wr W23)
    have F26 : Fld Z h20 a20 "java/lang/String" "value" "[B" .null := D20 (Or.inr (hw _ wd_24)) (ty := (.array .byte)) (by decide)
    have F27 := (((F26.ext E21).other W22 (Or.inl (Nat.ne_of_lt (Nat.lt_of_lt_of_le (A20).lt (Nat.le_of_eq z21))))).other W23 (Or.inl (Nat.ne_of_lt (Nat.lt_of_lt_of_le (A20).lt (Nat.le_of_eq z21)))))
    have F28 : Fld Z h20 a20 "java/lang/String" "coder" "B" (.int (0 : Int32)) := D20 (Or.inr (hw _ wd_25)) (ty := .byte) (by decide)
    have F29 := (((F28.ext E21).other W22 (Or.inl (Nat.ne_of_lt (Nat.lt_of_lt_of_le (A20).lt (Nat.le_of_eq z21))))).other W23 (Or.inl (Nat.ne_of_lt (Nat.lt_of_lt_of_le (A20).lt (Nat.le_of_eq z21)))))
    have Sf30 := ((((CHr.ext E21 X20.chv)).trans (CHr.wr W22 (Safe.arv X21.zw.alike V21 (by simp)) X21.chv)).trans (CHr.wr W23 (Safe.arv X22.zw.alike V22 (by simp)) X22.chv)).safe (A20).lt Sf20
    have hp24 : ∀ c ∈ ([x, y] : List Int32), ¬ c < 0 ∧ ¬ (255 : Int32) < c := (own_allS lx (own_allS ly own_all0))
    refine own_strInit X23 hw (cs := [x, y]) (c0 := a21) i3_50 (hw _ wd_12) g20 E25 F27 F29 V23 rfl (Nat.le_of_ble_eq_true rfl) (Nat.le_of_ble_eq_true rfl) hp24 hcs hcz Sf30 rfl (W := 1) rfl (by decide) (by decide) (k' := 3) rfl (n' := 8) rfl (by decide) (by decide) fun T24 h24 t24 b24 X24 K24 y24 S24 => ?_
    have Sr : Str Z h24 a20 t24 b24 (own_mk 2 x y) := by rw [own_mk2]; exact S24
    exact X24.areturn i3_53 rfl rfl rfl (by decide) (by decide) ⟨a20, t24, b24, rfl, (ext_keep (ext_wr (ext_wr (ext_trans E20 E21) W22 (Nat.le_trans E20.1 (Nat.le_of_eq z21))) W23 (Nat.le_trans E20.1 (Nat.le_of_eq z21))) K24 (allS (Nat.le_of_eq z20) all0)), (Nat.le_of_eq z20), Sr⟩
set_option maxRecDepth 65536 in
set_option maxHeartbeats 40000000 in
theorem c_pay (l : Launch) {Z : State} {a0 : Array Value} {n0 : Nat} (hw : ∀ d ∈ tables_1, d.before a0 Z = true) (hEL : EW Z a0 own_EL) {zc : Int32} (hcs : Sta Z Z.heap "java/lang/String" "COMPACT_STRINGS" "Z" (.int zc)) (hcz : ¬ zc = 0) {h : Heap} (hO : Old Z n0 h) (a : Addr) (k : Addr) (p : Addr) (u : Addr) (m : Int64) (E_a : Exa Z h a "com/example/tranche/tranche/Payout") (g_a : n0 ≤ a) (F_kind : Fld Z h a "com/example/tranche/tranche/Payout" "kind" "Lcom/example/tranche/tranche/Payout$Kind;" .null) (F_packetId : Fld Z h a "com/example/tranche/tranche/Payout" "packetId" "Ljava/lang/String;" .null) (F_user : Fld Z h a "com/example/tranche/tranche/Payout" "user" "Ljava/lang/String;" .null) (F_amountCents : Fld Z h a "com/example/tranche/tranche/Payout" "amountCents" "J" (.long (0 : Int64))) :
    Con [] false l Z own_EL n0 [] (⟨"com/example/tranche/tranche/Payout", "<init>", "(Lcom/example/tranche/tranche/Payout$Kind;Ljava/lang/String;Ljava/lang/String;J)V"⟩ : MethodName) prog_9_method_1_code 6 none ({ frames := 1, cells := 0, slots := 0, locals := 12 } : Room) #[(.ref a), (.ref k), (.ref p), (.ref u), (.long m)] h (fun v h' => v = none ∧ Keep h h' [a]) := by
  refine Con.intro (Ls := #[.val (.ref a), .val (.ref k), .val (.ref p), .val (.ref u), .val (.long m), .second]) pn4 hEL hO (fun m => by first | rfl | (simp [entryFrame, mkF, argsToLocals, Value.category]; done)) fun C vm T hl X hs => ?_
  have X : On C ({ frames := 1, cells := 0, slots := 0, locals := 12 } : Room) "com/example/tranche/tranche/Payout" prog_9_method_1_code 6 none "<init>" false Z a0 own_EL n0 vm T h 0 0 := X
  refine X.aload_n i4_0 rfl rfl ?_
  refine X.initO i4_1 (hw _ wd_39) (hw _ wd_20) (hw _ wd_21) rfl (by decide) (W := 0) rfl (by decide) fun T1 X1 => ?_
  refine X1.aload_n i4_4 rfl rfl ?_
  refine X1.aload_n i4_5 rfl rfl ?_
  refine X1.putfield i4_6 (hw _ wd_40) Via.refl F_kind E_a (Or.inr ⟨(hw _ wd_41), rfl, rfl⟩) (hw _ wd_34) (ty := (.object "com/example/tranche/tranche/Payout$Kind")) (by decide) rfl rfl g_a (Safe.exa X1.zw.alike E_a (by decide) (by decide)) fun T2 h2 X2 W2 => ?_
  refine X2.aload_n i4_9 rfl rfl ?_
  refine X2.aload_n i4_10 rfl rfl ?_
  have F3 := (F_packetId.other W2 (Or.inr (slot_ne (Or.inr (hw _ wd_43)) (Or.inr (hw _ wd_41)) (by decide) (t := (.object "java/lang/String")) (t' := (.object "com/example/tranche/tranche/Payout$Kind")) (by decide) (by decide))))
  have E4 := (E_a.wr W2)
  refine X2.putfield i4_11 (hw _ wd_42) Via.refl F3 E4 (Or.inr ⟨(hw _ wd_43), rfl, rfl⟩) (hw _ wd_34) (ty := (.object "java/lang/String")) (by decide) rfl rfl g_a (Safe.exa X2.zw.alike E4 (by decide) (by decide)) fun T5 h5 X5 W5 => ?_
  refine X5.aload_n i4_14 rfl rfl ?_
  refine X5.aload_n i4_15 rfl rfl ?_
  have F6 := ((F_user.other W2 (Or.inr (slot_ne (Or.inr (hw _ wd_45)) (Or.inr (hw _ wd_41)) (by decide) (t := (.object "java/lang/String")) (t' := (.object "com/example/tranche/tranche/Payout$Kind")) (by decide) (by decide)))).other W5 (Or.inr (slot_ne (Or.inr (hw _ wd_45)) (Or.inr (hw _ wd_43)) (by decide) (t := (.object "java/lang/String")) (t' := (.object "java/lang/String")) (by decide) (by decide))))
  have E7 := (E4.wr W5)
  refine X5.putfield i4_16 (hw _ wd_44) Via.refl F6 E7 (Or.inr ⟨(hw _ wd_45), rfl, rfl⟩) (hw _ wd_34) (ty := (.object "java/lang/String")) (by decide) rfl rfl g_a (Safe.exa X5.zw.alike E7 (by decide) (by decide)) fun T8 h8 X8 W8 => ?_
  refine X8.aload_n i4_19 rfl rfl ?_
  refine X8.lload i4_20 rfl ?_
  have F9 := (((F_amountCents.other W2 (Or.inr (slot_ne (Or.inr (hw _ wd_47)) (Or.inr (hw _ wd_41)) (by decide) (t := .long) (t' := (.object "com/example/tranche/tranche/Payout$Kind")) (by decide) (by decide)))).other W5 (Or.inr (slot_ne (Or.inr (hw _ wd_47)) (Or.inr (hw _ wd_43)) (by decide) (t := .long) (t' := (.object "java/lang/String")) (by decide) (by decide)))).other W8 (Or.inr (slot_ne (Or.inr (hw _ wd_47)) (Or.inr (hw _ wd_45)) (by decide) (t := .long) (t' := (.object "java/lang/String")) (by decide) (by decide))))
  have E10 := (E7.wr W8)
  refine X8.putfield i4_22 (hw _ wd_46) Via.refl F9 E10 (Or.inr ⟨(hw _ wd_47), rfl, rfl⟩) (hw _ wd_34) (ty := .long) (by decide) rfl rfl g_a (Safe.exa X8.zw.alike E10 (by decide) (by decide)) fun T11 h11 X11 W11 => ?_
  exact X11.ret i4_25 rfl (by decide) (by decide) ⟨rfl, (((((Keep.refl _ [a]).wr W2 (Or.inl (List.mem_of_getElem? (i := 0) rfl))).wr W5 (Or.inl (List.mem_of_getElem? (i := 0) rfl))).wr W8 (Or.inl (List.mem_of_getElem? (i := 0) rfl))).wr W11 (Or.inl (List.mem_of_getElem? (i := 0) rfl)))⟩
set_option maxRecDepth 65536 in
set_option maxHeartbeats 40000000 in
theorem c_del (l : Launch) {Z : State} {a0 : Array Value} {n0 : Nat} (hw : ∀ d ∈ tables_1, d.before a0 Z = true) (hEL : EW Z a0 own_EL) {zc : Int32} (hcs : Sta Z Z.heap "java/lang/String" "COMPACT_STRINGS" "Z" (.int zc)) (hcz : ¬ zc = 0) {h : Heap} (hO : Old Z n0 h) (a : Addr) (i : Addr) (p : Addr) (t : Int32) (E_a : Exa Z h a "com/example/tranche/tranche/Delivery") (g_a : n0 ≤ a) (F_payoutId : Fld Z h a "com/example/tranche/tranche/Delivery" "payoutId" "Ljava/lang/String;" .null) (F_payout : Fld Z h a "com/example/tranche/tranche/Delivery" "payout" "Lcom/example/tranche/tranche/Payout;" .null) (F_tries : Fld Z h a "com/example/tranche/tranche/Delivery" "tries" "I" (.int (0 : Int32))) :
    Con [] false l Z own_EL n0 [] (⟨"com/example/tranche/tranche/Delivery", "<init>", "(Ljava/lang/String;Lcom/example/tranche/tranche/Payout;I)V"⟩ : MethodName) prog_4_method_1_code 4 none ({ frames := 1, cells := 0, slots := 0, locals := 12 } : Room) #[(.ref a), (.ref i), (.ref p), (.int t)] h (fun v h' => v = none ∧ Keep h h' [a] ∧ Fld Z h' a "com/example/tranche/tranche/Delivery" "payoutId" "Ljava/lang/String;" (.ref i) ∧ Fld Z h' a "com/example/tranche/tranche/Delivery" "tries" "I" (.int t)) := by
  refine Con.intro (Ls := #[.val (.ref a), .val (.ref i), .val (.ref p), .val (.int t)]) pn5 hEL hO (fun m => by first | rfl | (simp [entryFrame, mkF, argsToLocals, Value.category]; done)) fun C vm T hl X hs => ?_
  have X : On C ({ frames := 1, cells := 0, slots := 0, locals := 12 } : Room) "com/example/tranche/tranche/Delivery" prog_4_method_1_code 4 none "<init>" false Z a0 own_EL n0 vm T h 0 0 := X
  refine X.aload_n i5_0 rfl rfl ?_
  refine X.initO i5_1 (hw _ wd_54) (hw _ wd_20) (hw _ wd_21) rfl (by decide) (W := 0) rfl (by decide) fun T1 X1 => ?_
  refine X1.aload_n i5_4 rfl rfl ?_
  refine X1.aload_n i5_5 rfl rfl ?_
  refine X1.putfield i5_6 (hw _ wd_55) Via.refl F_payoutId E_a (Or.inr ⟨(hw _ wd_56), rfl, rfl⟩) (hw _ wd_49) (ty := (.object "java/lang/String")) (by decide) rfl rfl g_a (Safe.exa X1.zw.alike E_a (by decide) (by decide)) fun T2 h2 X2 W2 => ?_
  refine X2.aload_n i5_9 rfl rfl ?_
  refine X2.aload_n i5_10 rfl rfl ?_
  have F3 := (F_payout.other W2 (Or.inr (slot_ne (Or.inr (hw _ wd_58)) (Or.inr (hw _ wd_56)) (by decide) (t := (.object "com/example/tranche/tranche/Payout")) (t' := (.object "java/lang/String")) (by decide) (by decide))))
  have E4 := (E_a.wr W2)
  refine X2.putfield i5_11 (hw _ wd_57) Via.refl F3 E4 (Or.inr ⟨(hw _ wd_58), rfl, rfl⟩) (hw _ wd_49) (ty := (.object "com/example/tranche/tranche/Payout")) (by decide) rfl rfl g_a (Safe.exa X2.zw.alike E4 (by decide) (by decide)) fun T5 h5 X5 W5 => ?_
  refine X5.aload_n i5_14 rfl rfl ?_
  refine X5.iload_n i5_15 rfl ?_
  have F6 := ((F_tries.other W2 (Or.inr (slot_ne (Or.inr (hw _ wd_60)) (Or.inr (hw _ wd_56)) (by decide) (t := .int) (t' := (.object "java/lang/String")) (by decide) (by decide)))).other W5 (Or.inr (slot_ne (Or.inr (hw _ wd_60)) (Or.inr (hw _ wd_58)) (by decide) (t := .int) (t' := (.object "com/example/tranche/tranche/Payout")) (by decide) (by decide))))
  have E7 := (E4.wr W5)
  refine X5.putfield i5_16 (hw _ wd_59) Via.refl F6 E7 (Or.inr ⟨(hw _ wd_60), rfl, rfl⟩) (hw _ wd_49) (ty := .int) (by decide) rfl rfl g_a (Safe.exa X5.zw.alike E7 (by decide) (by decide)) fun T8 h8 X8 W8 => ?_
  have F9 := (((F_payoutId.same W2).other W5 (Or.inr (slot_ne (Or.inr (hw _ wd_56)) (Or.inr (hw _ wd_58)) (by decide) (t := (.object "java/lang/String")) (t' := (.object "com/example/tranche/tranche/Payout")) (by decide) (by decide)))).other W8 (Or.inr (slot_ne (Or.inr (hw _ wd_56)) (Or.inr (hw _ wd_60)) (by decide) (t := (.object "java/lang/String")) (t' := .int) (by decide) (by decide))))
  exact X8.ret i5_19 rfl (by decide) (by decide) ⟨rfl, ((((Keep.refl _ [a]).wr W2 (Or.inl (List.mem_of_getElem? (i := 0) rfl))).wr W5 (Or.inl (List.mem_of_getElem? (i := 0) rfl))).wr W8 (Or.inl (List.mem_of_getElem? (i := 0) rfl))), F9, (F6.same W8)⟩
set_option maxRecDepth 65536 in
set_option maxHeartbeats 40000000 in
theorem c_eqD (l : Launch) {Z : State} {a0 : Array Value} {n0 : Nat} (hw : ∀ d ∈ tables_1, d.before a0 Z = true) (hEL : EW Z a0 own_EL) {zc : Int32} (hcs : Sta Z Z.heap "java/lang/String" "COMPACT_STRINGS" "Z" (.int zc)) (hcz : ¬ zc = 0) {h : Heap} (hO : Old Z n0 h) (a : Addr) (o : Addr) (i : Addr) (ti : Addr) (bi : ClassId) (cs : List Int32) (t : Int32) (j : Addr) (tj : Addr) (bj : ClassId) (ds : List Int32) (u : Int32) (F_i : Fld Z h a "com/example/tranche/tranche/Delivery" "payoutId" "Ljava/lang/String;" (.ref i)) (F_t : Fld Z h a "com/example/tranche/tranche/Delivery" "tries" "I" (.int t)) (S_i : Str Z h i ti bi cs) (E_o : Exa Z h o "com/example/tranche/tranche/Delivery") (F_j : Fld Z h o "com/example/tranche/tranche/Delivery" "payoutId" "Ljava/lang/String;" (.ref j)) (F_u : Fld Z h o "com/example/tranche/tranche/Delivery" "tries" "I" (.int u)) (S_j : Str Z h j tj bj ds) (lc : cs.length ≤ 4000) (ld : ds.length ≤ 4000) :
    Con [] false l Z own_EL n0 [] (⟨"com/example/tranche/tranche/Delivery", "equals", "(Ljava/lang/Object;)Z"⟩ : MethodName) prog_4_method_6_code 3 (some .boolean) ({ frames := 2, cells := 0, slots := 0, locals := 28 } : Room) #[(.ref a), (.ref o)] h (fun v h' => ∃ (r : Int32), v = some (.int r) ∧ h = h' ∧ ((r = 1 ∧ ds = cs ∧ u = t) ∨ (r = 0 ∧ ¬ (ds = cs ∧ u = t)))) := by
  refine Con.intro (Ls := #[.val (.ref a), .val (.ref o), .unset]) pn6 hEL hO (fun m => by first | rfl | (simp [entryFrame, mkF, argsToLocals, Value.category]; done)) fun C vm T hl X hs => ?_
  have X : On C ({ frames := 2, cells := 0, slots := 0, locals := 28 } : Room) "com/example/tranche/tranche/Delivery" prog_4_method_6_code 3 (some .boolean) "equals" false Z a0 own_EL n0 vm T h 0 0 := X
  refine X.aload_n i6_0 rfl rfl ?_
  refine X.instY i6_1 (hw _ wd_66) (RoadKit.Ins.self E_o) fun T1 X1 => ?_
  refine X1.ifN i6_4 (by decide) ?_
  refine X1.aload_n i6_7 rfl rfl ?_
  refine X1.checkcast i6_8 (hw _ wd_66) (RoadKit.Ins.self E_o) fun T2 X2 => ?_
  refine X2.astore_n i6_11 rfl (Ls' := #[.val (.ref a), .val (.ref o), .val (.ref o)]) rfl ?_
  refine X2.aload_n i6_12 rfl rfl ?_
  refine X2.getfield i6_13 (hw _ wd_55) Via.refl F_j fun T3 X3 => ?_
  refine X3.aload_n i6_16 rfl rfl ?_
  refine X3.getfield i6_17 (hw _ wd_55) Via.refl F_i fun T4 X4 => ?_
  refine own_strEq X4 hw i6_20 (hw _ wd_68) S_j S_i ld lc hcs hcz rfl (W := 0) rfl (by decide) (by decide) (by decide) (by decide) fun T5 r5 X5 q5 => ?_
  rcases q5 with ⟨rfl, he⟩ | ⟨rfl, he⟩
  · skip
    refine X5.ifN i6_23 (by decide) ?_
    refine X5.aload_n i6_26 rfl rfl ?_
    refine X5.getfield i6_27 (hw _ wd_59) Via.refl F_u fun T6 X6 => ?_
    refine X6.aload_n i6_30 rfl rfl ?_
    refine X6.getfield i6_31 (hw _ wd_59) Via.refl F_t fun T7 X7 => ?_
    by_cases ht : ¬ u = t
    · skip
      refine X7.icY i6_34 j34_7 (XT.ii_ne_t ht) ?_
      refine X7.iconst i6_41 (z := (0 : Int32)) rfl ?_
      exact X7.ireturn i6_42 (t := .boolean) rfl (by decide) rfl (by decide) (by decide) ⟨0, rfl, rfl, Or.inr ⟨rfl, fun z => ht z.2⟩⟩
    · skip
      have ht := Classical.not_not.mp ht
      refine X7.icN i6_34 (XT.ii_ne_f ht) ?_
      refine X7.iconst i6_37 (z := (1 : Int32)) rfl ?_
      refine X7.goto i6_38 j38_4 ?_
      exact X7.ireturn i6_42 (t := .boolean) rfl (by decide) rfl (by decide) (by decide) ⟨1, rfl, rfl, Or.inl ⟨rfl, he, ht⟩⟩
  · skip
    refine X5.ifY i6_23 j23_18 (by decide) ?_
    refine X5.iconst i6_41 (z := (0 : Int32)) rfl ?_
    exact X5.ireturn i6_42 (t := .boolean) rfl (by decide) rfl (by decide) (by decide) ⟨0, rfl, rfl, Or.inr ⟨rfl, fun z => he z.1⟩⟩
set_option maxRecDepth 65536 in
set_option maxHeartbeats 40000000 in
theorem c_eqN (l : Launch) {Z : State} {a0 : Array Value} {n0 : Nat} (hw : ∀ d ∈ tables_1, d.before a0 Z = true) (hEL : EW Z a0 own_EL) {zc : Int32} (hcs : Sta Z Z.heap "java/lang/String" "COMPACT_STRINGS" "Z" (.int zc)) (hcz : ¬ zc = 0) {h : Heap} (hO : Old Z n0 h) (a : Addr)  :
    Con [] false l Z own_EL n0 [] (⟨"com/example/tranche/tranche/Delivery", "equals", "(Ljava/lang/Object;)Z"⟩ : MethodName) prog_4_method_6_code 3 (some .boolean) ({ frames := 0, cells := 0, slots := 0, locals := 0 } : Room) #[(.ref a), .null] h (fun v h' => v = some (.int (0 : Int32)) ∧ h = h') := by
  refine Con.intro (Ls := #[.val (.ref a), .val .null, .unset]) pn6 hEL hO (fun m => by first | rfl | (simp [entryFrame, mkF, argsToLocals, Value.category]; done)) fun C vm T hl X hs => ?_
  have X : On C ({ frames := 0, cells := 0, slots := 0, locals := 0 } : Room) "com/example/tranche/tranche/Delivery" prog_4_method_6_code 3 (some .boolean) "equals" false Z a0 own_EL n0 vm T h 0 0 := X
  refine X.aload_n i6_0 rfl rfl ?_
  refine X.instNull i6_1 ?_
  refine X.ifY i6_4 j4_37 (by decide) ?_
  refine X.iconst i6_41 (z := (0 : Int32)) rfl ?_
  exact X.ireturn i6_42 (t := .boolean) rfl (by decide) rfl (by decide) (by decide) ⟨rfl, rfl⟩
set_option maxRecDepth 65536 in
set_option maxHeartbeats 40000000 in
theorem c_eqP (l : Launch) {Z : State} {a0 : Array Value} {n0 : Nat} (hw : ∀ d ∈ tables_1, d.before a0 Z = true) (hEL : EW Z a0 own_EL) {zc : Int32} (hcs : Sta Z Z.heap "java/lang/String" "COMPACT_STRINGS" "Z" (.int zc)) (hcz : ¬ zc = 0) {h : Heap} (hO : Old Z n0 h) (a : Addr) (o : Addr) (E_o : Exa Z h o "com/example/tranche/tranche/Payout") :
    Con [] false l Z own_EL n0 [] (⟨"com/example/tranche/tranche/Delivery", "equals", "(Ljava/lang/Object;)Z"⟩ : MethodName) prog_4_method_6_code 3 (some .boolean) ({ frames := 0, cells := 0, slots := 0, locals := 0 } : Room) #[(.ref a), (.ref o)] h (fun v h' => v = some (.int (0 : Int32)) ∧ h = h') := by
  refine Con.intro (Ls := #[.val (.ref a), .val (.ref o), .unset]) pn6 hEL hO (fun m => by first | rfl | (simp [entryFrame, mkF, argsToLocals, Value.category]; done)) fun C vm T hl X hs => ?_
  have X : On C ({ frames := 0, cells := 0, slots := 0, locals := 0 } : Room) "com/example/tranche/tranche/Delivery" prog_4_method_6_code 3 (some .boolean) "equals" false Z a0 own_EL n0 vm T h 0 0 := X
  refine X.aload_n i6_0 rfl rfl ?_
  refine X.instNo i6_1 (hw _ wd_66) E_o (nsNo (hw _ wd_34) (hw _ wd_49) (NS.step (hw _ wd_79) (nsRoot (hw _ wd_80) (hw _ wd_49) (by decide)) (by decide)) (by decide)) fun T1 X1 => ?_
  refine X1.ifY i6_4 j4_37 (by decide) ?_
  refine X1.iconst i6_41 (z := (0 : Int32)) rfl ?_
  exact X1.ireturn i6_42 (t := .boolean) rfl (by decide) rfl (by decide) (by decide) ⟨rfl, rfl⟩
theorem ef_law (m : MethodId) (p0 : Int32) (p1 : Int32) (p2 : Int32) (p3 : Int32) (rf : Addr) (gr : Addr) : entryFrame m #[(.int p0), (.int p1), (.int p2), (.int p3)] maxLocals = mkF m 0 #[.val (.int p0), .val (.int p1), .val (.int p2), .val (.int p3), .unset, .unset, .unset, .unset, .unset, .unset, .unset, .unset, .unset, .unset, .unset, .unset, .unset, .unset, .unset, .unset, .unset, .unset, .unset] [] := by first | (simp [entryFrame, mkF, argsToLocals, Value.category, maxLocals]; done) | rfl
set_option maxRecDepth 65536 in
set_option maxHeartbeats 40000000 in
theorem own_law (l : Launch) {Z : State} {a0 : Array Value} (hw : ∀ d ∈ tables_1, d.before a0 Z = true) (hEL : EW Z a0 own_EL) {zc : Int32} (hcs : Sta Z Z.heap "java/lang/String" "COMPACT_STRINGS" "Z" (.int zc)) (hcz : ¬ zc = 0) (p0 : Int32) (p1 : Int32) (p2 : Int32) (p3 : Int32) (rf : Addr) (gr : Addr) (hrf : Sta Z Z.heap "com/example/tranche/tranche/Payout$Kind" "REFUND" "Lcom/example/tranche/tranche/Payout$Kind;" (.ref rf)) (hgr : Sta Z Z.heap "com/example/tranche/tranche/Payout$Kind" "GRAB" "Lcom/example/tranche/tranche/Payout$Kind;" (.ref gr)) :
    Con tables_1 false l Z own_EL Z.heap.size [] x code maxLocals ret room_1 #[(.int p0), (.int p1), (.int p2), (.int p3)] Z.heap (fun v h' => v = some (.int (1 : Int32))) := by
  have hml : maxLocals = 23 := rfl
  refine Con.intro pn7 hEL (Old.start Z) (fun m => ef_law m p0 p1 p2 p3 rf gr) fun C vm T hl X hs => ?_
  have X : On C room_1 "com/example/tranche/tranche/DeliveryEqualsPinLaw" code 23 (some .boolean) "law" false Z a0 own_EL Z.heap.size vm T Z.heap 0 0 := X
  refine X.iload_n i7_0 rfl ?_
  refine X.sipush i7_1 (z := (255 : Int32)) rfl ?_
  refine X.iand i7_4 (z := (p0 &&& (255 : Int32))) rfl ?_
  refine X.i2c i7_5 (z := (p0 &&& (255 : Int32))) (i2c_mask _) ?_
  refine X.istore i7_6 (Ls' := #[.val (.int p0), .val (.int p1), .val (.int p2), .val (.int p3), .val (.int (p0 &&& (255 : Int32))), .unset, .unset, .unset, .unset, .unset, .unset, .unset, .unset, .unset, .unset, .unset, .unset, .unset, .unset, .unset, .unset, .unset, .unset]) rfl ?_
  refine X.iload_n i7_8 rfl ?_
  refine X.bipush i7_9 (z := (8 : Int32)) rfl ?_
  refine X.iushr i7_11 (z := ((p0.toUInt32 >>> ((8 : Int32) &&& 31).toUInt32).toInt32)) rfl ?_
  refine X.sipush i7_12 (z := (255 : Int32)) rfl ?_
  refine X.iand i7_15 (z := (((p0.toUInt32 >>> ((8 : Int32) &&& 31).toUInt32).toInt32) &&& (255 : Int32))) rfl ?_
  refine X.i2c i7_16 (z := (((p0.toUInt32 >>> ((8 : Int32) &&& 31).toUInt32).toInt32) &&& (255 : Int32))) (i2c_mask _) ?_
  refine X.istore i7_17 (Ls' := #[.val (.int p0), .val (.int p1), .val (.int p2), .val (.int p3), .val (.int (p0 &&& (255 : Int32))), .val (.int (((p0.toUInt32 >>> ((8 : Int32) &&& 31).toUInt32).toInt32) &&& (255 : Int32))), .unset, .unset, .unset, .unset, .unset, .unset, .unset, .unset, .unset, .unset, .unset, .unset, .unset, .unset, .unset, .unset, .unset]) rfl ?_
  refine X.iload_n i7_19 rfl ?_
  refine X.iconst i7_20 (z := (2 : Int32)) rfl ?_
  refine X.iand i7_21 (z := (p3 &&& (2 : Int32))) rfl ?_
  have J58 : ∀ (b0 : Int32) (b1 : Int32) (lb0 : own_lat b0) (lb1 : own_lat b1), Go C room_1 false Z own_EL Z.heap.size (fun v h' => v = some (.int (1 : Int32))) T 58 #[.val (.int p0), .val (.int p1), .val (.int p2), .val (.int p3), .val (.int (p0 &&& (255 : Int32))), .val (.int (((p0.toUInt32 >>> ((8 : Int32) &&& 31).toUInt32).toInt32) &&& (255 : Int32))), .val (.int b0), .val (.int b1), .unset, .unset, .unset, .unset, .unset, .unset, .unset, .unset, .unset, .unset, .unset, .unset, .unset, .unset, .unset] [] := by
    intro b0 b1 lb0 lb1
    refine X.iload_n i7_58 rfl ?_
    refine X.iconst i7_59 (z := (4 : Int32)) rfl ?_
    refine X.iushr i7_60 (z := ((p3.toUInt32 >>> ((4 : Int32) &&& 31).toUInt32).toInt32)) rfl ?_
    refine X.iconst i7_61 (z := (3 : Int32)) rfl ?_
    refine X.iand i7_62 (z := (((p3.toUInt32 >>> ((4 : Int32) &&& 31).toUInt32).toInt32) &&& (3 : Int32))) rfl ?_
    refine X.iconst i7_63 (z := (2 : Int32)) rfl ?_
    refine X.callS hl (argsL := [(.int (((p3.toUInt32 >>> ((4 : Int32) &&& 31).toUInt32).toInt32) &&& (3 : Int32))), (.int (2 : Int32))]) i7_64 (c_min l hw hEL hcs hcz X.old (((p3.toUInt32 >>> ((4 : Int32) &&& 31).toUInt32).toInt32) &&& (3 : Int32)) (2 : Int32) ) (hw _ wd_0) (hw _ wd_1) (hw _ wd_2) (hw _ wd_3) (by decide) sf_nil pd2 rfl rfl rfl (W := 0) rfl (by decide) (by decide) (k' := 0) rfl (n' := 0) rfl (by decide) (by decide) fun vm1 T1 h1 v1 X1 r1 Q1 => ?_
    obtain ⟨r_1, rfl, rfl, q1_1⟩ := Q1
    show Go _ _ _ _ _ _ _ T1 67 #[.val (.int p0), .val (.int p1), .val (.int p2), .val (.int p3), .val (.int (p0 &&& (255 : Int32))), .val (.int (((p0.toUInt32 >>> ((8 : Int32) &&& 31).toUInt32).toInt32) &&& (255 : Int32))), .val (.int b0), .val (.int b1), .unset, .unset, .unset, .unset, .unset, .unset, .unset, .unset, .unset, .unset, .unset, .unset, .unset, .unset, .unset] [(.int r_1)]
    have hr1 := own_min3 q1_1
    refine X1.istore i7_67 (Ls' := #[.val (.int p0), .val (.int p1), .val (.int p2), .val (.int p3), .val (.int (p0 &&& (255 : Int32))), .val (.int (((p0.toUInt32 >>> ((8 : Int32) &&& 31).toUInt32).toInt32) &&& (255 : Int32))), .val (.int b0), .val (.int b1), .val (.int r_1), .unset, .unset, .unset, .unset, .unset, .unset, .unset, .unset, .unset, .unset, .unset, .unset, .unset, .unset]) rfl ?_
    refine X1.iload_n i7_69 rfl ?_
    refine X1.bipush i7_70 (z := (6 : Int32)) rfl ?_
    refine X1.iushr i7_72 (z := ((p3.toUInt32 >>> ((6 : Int32) &&& 31).toUInt32).toInt32)) rfl ?_
    refine X1.iconst i7_73 (z := (3 : Int32)) rfl ?_
    refine X1.iand i7_74 (z := (((p3.toUInt32 >>> ((6 : Int32) &&& 31).toUInt32).toInt32) &&& (3 : Int32))) rfl ?_
    refine X1.iconst i7_75 (z := (2 : Int32)) rfl ?_
    refine X1.callS hl (argsL := [(.int (((p3.toUInt32 >>> ((6 : Int32) &&& 31).toUInt32).toInt32) &&& (3 : Int32))), (.int (2 : Int32))]) i7_76 (c_min l hw hEL hcs hcz X1.old (((p3.toUInt32 >>> ((6 : Int32) &&& 31).toUInt32).toInt32) &&& (3 : Int32)) (2 : Int32) ) (hw _ wd_0) (hw _ wd_1) (hw _ wd_2) (hw _ wd_3) (by decide) sf_nil pd2 rfl rfl rfl (W := 0) rfl (by decide) (by decide) (k' := 0) rfl (n' := 0) rfl (by decide) (by decide) fun vm2 T2 h2 v2 X2 r2 Q2 => ?_
    obtain ⟨r_2, rfl, rfl, q2_1⟩ := Q2
    show Go _ _ _ _ _ _ _ T2 79 #[.val (.int p0), .val (.int p1), .val (.int p2), .val (.int p3), .val (.int (p0 &&& (255 : Int32))), .val (.int (((p0.toUInt32 >>> ((8 : Int32) &&& 31).toUInt32).toInt32) &&& (255 : Int32))), .val (.int b0), .val (.int b1), .val (.int r_1), .unset, .unset, .unset, .unset, .unset, .unset, .unset, .unset, .unset, .unset, .unset, .unset, .unset, .unset] [(.int r_2)]
    have hr2 := own_min3 q2_1
    refine X2.istore i7_79 (Ls' := #[.val (.int p0), .val (.int p1), .val (.int p2), .val (.int p3), .val (.int (p0 &&& (255 : Int32))), .val (.int (((p0.toUInt32 >>> ((8 : Int32) &&& 31).toUInt32).toInt32) &&& (255 : Int32))), .val (.int b0), .val (.int b1), .val (.int r_1), .val (.int r_2), .unset, .unset, .unset, .unset, .unset, .unset, .unset, .unset, .unset, .unset, .unset, .unset, .unset]) rfl ?_
    refine X2.iload_n i7_81 rfl ?_
    refine X2.iconst i7_82 (z := (1 : Int32)) rfl ?_
    refine X2.iand i7_83 (z := (p3 &&& (1 : Int32))) rfl ?_
    have J92 : ∀ (t2 : Int32), Go C room_1 false Z own_EL Z.heap.size (fun v h' => v = some (.int (1 : Int32))) T2 92 #[.val (.int p0), .val (.int p1), .val (.int p2), .val (.int p3), .val (.int (p0 &&& (255 : Int32))), .val (.int (((p0.toUInt32 >>> ((8 : Int32) &&& 31).toUInt32).toInt32) &&& (255 : Int32))), .val (.int b0), .val (.int b1), .val (.int r_1), .val (.int r_2), .unset, .unset, .unset, .unset, .unset, .unset, .unset, .unset, .unset, .unset, .unset, .unset, .unset] [(.int t2)] := by
      intro t2
      refine X2.istore i7_92 (Ls' := #[.val (.int p0), .val (.int p1), .val (.int p2), .val (.int p3), .val (.int (p0 &&& (255 : Int32))), .val (.int (((p0.toUInt32 >>> ((8 : Int32) &&& 31).toUInt32).toInt32) &&& (255 : Int32))), .val (.int b0), .val (.int b1), .val (.int r_1), .val (.int r_2), .val (.int t2), .unset, .unset, .unset, .unset, .unset, .unset, .unset, .unset, .unset, .unset, .unset, .unset]) rfl ?_
      refine X2.iload i7_94 rfl ?_
      refine X2.iload i7_96 rfl ?_
      refine X2.iload i7_98 rfl ?_
      refine X2.callS hl (argsL := [(.int r_1), (.int (p0 &&& (255 : Int32))), (.int (((p0.toUInt32 >>> ((8 : Int32) &&& 31).toUInt32).toInt32) &&& (255 : Int32)))]) i7_100 (c_mk l hw hEL hcs hcz X2.old r_1 (p0 &&& (255 : Int32)) (((p0.toUInt32 >>> ((8 : Int32) &&& 31).toUInt32).toInt32) &&& (255 : Int32)) hr1 (own_and255 _) (own_and255 _)) (hw _ wd_4) (hw _ wd_5) (hw _ wd_6) (hw _ wd_7) (by decide) sf_nil pd3 rfl rfl rfl (W := 0) rfl (by decide) (by decide) (k' := 6) rfl (n' := 12) rfl (by decide) (by decide) fun vm3 T3 h3 v3 X3 r3 Q3 => ?_
      obtain ⟨r_3, t_3, kb_3, rfl, q3_0, q3_1, q3_2⟩ := Q3
      have g4 := Nat.le_trans X.n0le q3_1
      show Go _ _ _ _ _ _ _ T3 103 #[.val (.int p0), .val (.int p1), .val (.int p2), .val (.int p3), .val (.int (p0 &&& (255 : Int32))), .val (.int (((p0.toUInt32 >>> ((8 : Int32) &&& 31).toUInt32).toInt32) &&& (255 : Int32))), .val (.int b0), .val (.int b1), .val (.int r_1), .val (.int r_2), .val (.int t2), .unset, .unset, .unset, .unset, .unset, .unset, .unset, .unset, .unset, .unset, .unset, .unset] [(.ref r_3)]
      refine X3.astore i7_103 rfl (Ls' := #[.val (.int p0), .val (.int p1), .val (.int p2), .val (.int p3), .val (.int (p0 &&& (255 : Int32))), .val (.int (((p0.toUInt32 >>> ((8 : Int32) &&& 31).toUInt32).toInt32) &&& (255 : Int32))), .val (.int b0), .val (.int b1), .val (.int r_1), .val (.int r_2), .val (.int t2), .val (.ref r_3), .unset, .unset, .unset, .unset, .unset, .unset, .unset, .unset, .unset, .unset, .unset]) rfl ?_
      refine X3.iload i7_105 rfl ?_
      refine X3.iload i7_107 rfl ?_
      refine X3.iload i7_109 rfl ?_
      refine X3.callS hl (argsL := [(.int r_2), (.int b0), (.int b1)]) i7_111 (c_mk l hw hEL hcs hcz X3.old r_2 b0 b1 hr2 lb0 lb1) (hw _ wd_4) (hw _ wd_5) (hw _ wd_6) (hw _ wd_7) (by decide) sf_nil pd3 rfl rfl rfl (W := 0) rfl (by decide) (by decide) (k' := 12) rfl (n' := 24) rfl (by decide) (by decide) fun vm5 T5 h5 v5 X5 r5 Q5 => ?_
      obtain ⟨r_5, t_5, kb_5, rfl, q5_0, q5_1, q5_2⟩ := Q5
      have g6 := Nat.le_trans X3.n0le q5_1
      show Go _ _ _ _ _ _ _ T5 114 #[.val (.int p0), .val (.int p1), .val (.int p2), .val (.int p3), .val (.int (p0 &&& (255 : Int32))), .val (.int (((p0.toUInt32 >>> ((8 : Int32) &&& 31).toUInt32).toInt32) &&& (255 : Int32))), .val (.int b0), .val (.int b1), .val (.int r_1), .val (.int r_2), .val (.int t2), .val (.ref r_3), .unset, .unset, .unset, .unset, .unset, .unset, .unset, .unset, .unset, .unset, .unset] [(.ref r_5)]
      refine X5.astore i7_114 rfl (Ls' := #[.val (.int p0), .val (.int p1), .val (.int p2), .val (.int p3), .val (.int (p0 &&& (255 : Int32))), .val (.int (((p0.toUInt32 >>> ((8 : Int32) &&& 31).toUInt32).toInt32) &&& (255 : Int32))), .val (.int b0), .val (.int b1), .val (.int r_1), .val (.int r_2), .val (.int t2), .val (.ref r_3), .val (.ref r_5), .unset, .unset, .unset, .unset, .unset, .unset, .unset, .unset, .unset, .unset]) rfl ?_
      refine X5.iload_n i7_116 rfl ?_
      refine X5.bipush i7_117 (z := (8 : Int32)) rfl ?_
      refine X5.iushr i7_119 (z := ((p3.toUInt32 >>> ((8 : Int32) &&& 31).toUInt32).toInt32)) rfl ?_
      refine X5.iconst i7_120 (z := (1 : Int32)) rfl ?_
      refine X5.iand i7_121 (z := (((p3.toUInt32 >>> ((8 : Int32) &&& 31).toUInt32).toInt32) &&& (1 : Int32))) rfl ?_
      have J134 : ∀ (T' : State) (X' : On C room_1 "com/example/tranche/tranche/DeliveryEqualsPinLaw" code 23 (some .boolean) "law" false Z a0 own_EL Z.heap.size vm5 T' h5 12 24) (k1 : Addr), Go C room_1 false Z own_EL Z.heap.size (fun v h' => v = some (.int (1 : Int32))) T' 134 #[.val (.int p0), .val (.int p1), .val (.int p2), .val (.int p3), .val (.int (p0 &&& (255 : Int32))), .val (.int (((p0.toUInt32 >>> ((8 : Int32) &&& 31).toUInt32).toInt32) &&& (255 : Int32))), .val (.int b0), .val (.int b1), .val (.int r_1), .val (.int r_2), .val (.int t2), .val (.ref r_3), .val (.ref r_5), .unset, .unset, .unset, .unset, .unset, .unset, .unset, .unset, .unset, .unset] [(.ref k1)] := by
        intro T' X' k1
        refine X'.astore i7_134 rfl (Ls' := #[.val (.int p0), .val (.int p1), .val (.int p2), .val (.int p3), .val (.int (p0 &&& (255 : Int32))), .val (.int (((p0.toUInt32 >>> ((8 : Int32) &&& 31).toUInt32).toInt32) &&& (255 : Int32))), .val (.int b0), .val (.int b1), .val (.int r_1), .val (.int r_2), .val (.int t2), .val (.ref r_3), .val (.ref r_5), .val (.ref k1), .unset, .unset, .unset, .unset, .unset, .unset, .unset, .unset, .unset]) rfl ?_
        refine X'.iload_n i7_136 rfl ?_
        refine X'.bipush i7_137 (z := (9 : Int32)) rfl ?_
        refine X'.iushr i7_139 (z := ((p3.toUInt32 >>> ((9 : Int32) &&& 31).toUInt32).toInt32)) rfl ?_
        refine X'.iconst i7_140 (z := (1 : Int32)) rfl ?_
        refine X'.iand i7_141 (z := (((p3.toUInt32 >>> ((9 : Int32) &&& 31).toUInt32).toInt32) &&& (1 : Int32))) rfl ?_
        have J154 : ∀ (T'' : State) (X'' : On C room_1 "com/example/tranche/tranche/DeliveryEqualsPinLaw" code 23 (some .boolean) "law" false Z a0 own_EL Z.heap.size vm5 T'' h5 12 24) (k2 : Addr), Go C room_1 false Z own_EL Z.heap.size (fun v h' => v = some (.int (1 : Int32))) T'' 154 #[.val (.int p0), .val (.int p1), .val (.int p2), .val (.int p3), .val (.int (p0 &&& (255 : Int32))), .val (.int (((p0.toUInt32 >>> ((8 : Int32) &&& 31).toUInt32).toInt32) &&& (255 : Int32))), .val (.int b0), .val (.int b1), .val (.int r_1), .val (.int r_2), .val (.int t2), .val (.ref r_3), .val (.ref r_5), .val (.ref k1), .unset, .unset, .unset, .unset, .unset, .unset, .unset, .unset, .unset] [(.ref k2)] := by
          intro T'' X'' k2
          refine X''.astore i7_154 rfl (Ls' := #[.val (.int p0), .val (.int p1), .val (.int p2), .val (.int p3), .val (.int (p0 &&& (255 : Int32))), .val (.int (((p0.toUInt32 >>> ((8 : Int32) &&& 31).toUInt32).toInt32) &&& (255 : Int32))), .val (.int b0), .val (.int b1), .val (.int r_1), .val (.int r_2), .val (.int t2), .val (.ref r_3), .val (.ref r_5), .val (.ref k1), .val (.ref k2), .unset, .unset, .unset, .unset, .unset, .unset, .unset, .unset]) rfl ?_
          refine X''.new i7_156 (hw _ wd_33) (hw _ wd_34) (hw _ wd_35) (k' := 13) rfl (n' := 28) rfl (by decide) (by decide) fun T7 h7 a7 X7 E7 z7 g7 A7 D7 U7 Sf7 => ?_
          refine X7.dup i7_159 rfl ?_
          refine X7.aload i7_160 rfl rfl ?_
          refine X7.aload i7_162 rfl rfl ?_
          refine X7.aload i7_164 rfl rfl ?_
          refine X7.iload_n i7_166 rfl ?_
          refine X7.i2l i7_167 rfl ?_
          have F8 : Fld Z h7 a7 "com/example/tranche/tranche/Payout" "kind" "Lcom/example/tranche/tranche/Payout$Kind;" .null := D7 (Or.inr (hw _ wd_41)) (ty := (.object "com/example/tranche/tranche/Payout$Kind")) (by decide)
          have F9 : Fld Z h7 a7 "com/example/tranche/tranche/Payout" "packetId" "Ljava/lang/String;" .null := D7 (Or.inr (hw _ wd_43)) (ty := (.object "java/lang/String")) (by decide)
          have F10 : Fld Z h7 a7 "com/example/tranche/tranche/Payout" "user" "Ljava/lang/String;" .null := D7 (Or.inr (hw _ wd_45)) (ty := (.object "java/lang/String")) (by decide)
          have F11 : Fld Z h7 a7 "com/example/tranche/tranche/Payout" "amountCents" "J" (.long (0 : Int64)) := D7 (Or.inr (hw _ wd_47)) (ty := .long) (by decide)
          refine X7.callI hl (argsL := [(.ref k1), (.ref r_3), (.ref r_5), (.long (p1.toInt64))]) (a := a7) i7_168 (c_pay l hw hEL hcs hcz X7.old a7 k1 r_3 r_5 (p1.toInt64) A7 g7 F8 F9 F10 F11) (hw _ wd_36) (hw _ wd_37) (hw _ wd_35) (hw _ wd_38) rfl (by decide) sf_nil pd4 rfl rfl rfl (W := 1) rfl (by decide) (by decide) (k' := 13) rfl (n' := 28) rfl (by decide) (by decide) fun vm12 T12 h12 v12 X12 r12 Q12 => ?_
          obtain ⟨rfl, q12_0⟩ := Q12
          show Go _ _ _ _ _ _ _ T12 171 #[.val (.int p0), .val (.int p1), .val (.int p2), .val (.int p3), .val (.int (p0 &&& (255 : Int32))), .val (.int (((p0.toUInt32 >>> ((8 : Int32) &&& 31).toUInt32).toInt32) &&& (255 : Int32))), .val (.int b0), .val (.int b1), .val (.int r_1), .val (.int r_2), .val (.int t2), .val (.ref r_3), .val (.ref r_5), .val (.ref k1), .val (.ref k2), .unset, .unset, .unset, .unset, .unset, .unset, .unset, .unset] [(.ref a7)]
          refine X12.astore i7_171 rfl (Ls' := #[.val (.int p0), .val (.int p1), .val (.int p2), .val (.int p3), .val (.int (p0 &&& (255 : Int32))), .val (.int (((p0.toUInt32 >>> ((8 : Int32) &&& 31).toUInt32).toInt32) &&& (255 : Int32))), .val (.int b0), .val (.int b1), .val (.int r_1), .val (.int r_2), .val (.int t2), .val (.ref r_3), .val (.ref r_5), .val (.ref k1), .val (.ref k2), .val (.ref a7), .unset, .unset, .unset, .unset, .unset, .unset, .unset]) rfl ?_
          refine X12.new i7_173 (hw _ wd_33) (hw _ wd_34) (hw _ wd_35) (k' := 14) rfl (n' := 32) rfl (by decide) (by decide) fun T13 h13 a13 X13 E13 z13 g13 A13 D13 U13 Sf13 => ?_
          refine X13.dup i7_176 rfl ?_
          refine X13.aload i7_177 rfl rfl ?_
          refine X13.aload i7_179 rfl rfl ?_
          refine X13.aload i7_181 rfl rfl ?_
          refine X13.iload_n i7_183 rfl ?_
          refine X13.i2l i7_184 rfl ?_
          have F14 : Fld Z h13 a13 "com/example/tranche/tranche/Payout" "kind" "Lcom/example/tranche/tranche/Payout$Kind;" .null := D13 (Or.inr (hw _ wd_41)) (ty := (.object "com/example/tranche/tranche/Payout$Kind")) (by decide)
          have F15 : Fld Z h13 a13 "com/example/tranche/tranche/Payout" "packetId" "Ljava/lang/String;" .null := D13 (Or.inr (hw _ wd_43)) (ty := (.object "java/lang/String")) (by decide)
          have F16 : Fld Z h13 a13 "com/example/tranche/tranche/Payout" "user" "Ljava/lang/String;" .null := D13 (Or.inr (hw _ wd_45)) (ty := (.object "java/lang/String")) (by decide)
          have F17 : Fld Z h13 a13 "com/example/tranche/tranche/Payout" "amountCents" "J" (.long (0 : Int64)) := D13 (Or.inr (hw _ wd_47)) (ty := .long) (by decide)
          refine X13.callI hl (argsL := [(.ref k2), (.ref r_5), (.ref r_3), (.long (p2.toInt64))]) (a := a13) i7_185 (c_pay l hw hEL hcs hcz X13.old a13 k2 r_5 r_3 (p2.toInt64) A13 g13 F14 F15 F16 F17) (hw _ wd_36) (hw _ wd_37) (hw _ wd_35) (hw _ wd_38) rfl (by decide) sf_nil pd4 rfl rfl rfl (W := 1) rfl (by decide) (by decide) (k' := 14) rfl (n' := 32) rfl (by decide) (by decide) fun vm18 T18 h18 v18 X18 r18 Q18 => ?_
          obtain ⟨rfl, q18_0⟩ := Q18
          show Go _ _ _ _ _ _ _ T18 188 #[.val (.int p0), .val (.int p1), .val (.int p2), .val (.int p3), .val (.int (p0 &&& (255 : Int32))), .val (.int (((p0.toUInt32 >>> ((8 : Int32) &&& 31).toUInt32).toInt32) &&& (255 : Int32))), .val (.int b0), .val (.int b1), .val (.int r_1), .val (.int r_2), .val (.int t2), .val (.ref r_3), .val (.ref r_5), .val (.ref k1), .val (.ref k2), .val (.ref a7), .unset, .unset, .unset, .unset, .unset, .unset, .unset] [(.ref a13)]
          refine X18.astore i7_188 rfl (Ls' := #[.val (.int p0), .val (.int p1), .val (.int p2), .val (.int p3), .val (.int (p0 &&& (255 : Int32))), .val (.int (((p0.toUInt32 >>> ((8 : Int32) &&& 31).toUInt32).toInt32) &&& (255 : Int32))), .val (.int b0), .val (.int b1), .val (.int r_1), .val (.int r_2), .val (.int t2), .val (.ref r_3), .val (.ref r_5), .val (.ref k1), .val (.ref k2), .val (.ref a7), .val (.ref a13), .unset, .unset, .unset, .unset, .unset, .unset]) rfl ?_
          refine X18.new i7_190 (hw _ wd_48) (hw _ wd_49) (hw _ wd_50) (k' := 15) rfl (n' := 35) rfl (by decide) (by decide) fun T19 h19 a19 X19 E19 z19 g19 A19 D19 U19 Sf19 => ?_
          refine X19.dup i7_193 rfl ?_
          refine X19.aload i7_194 rfl rfl ?_
          refine X19.aload i7_196 rfl rfl ?_
          refine X19.iload_n i7_198 rfl ?_
          have F20 : Fld Z h19 a19 "com/example/tranche/tranche/Delivery" "payoutId" "Ljava/lang/String;" .null := D19 (Or.inr (hw _ wd_56)) (ty := (.object "java/lang/String")) (by decide)
          have F21 : Fld Z h19 a19 "com/example/tranche/tranche/Delivery" "payout" "Lcom/example/tranche/tranche/Payout;" .null := D19 (Or.inr (hw _ wd_58)) (ty := (.object "com/example/tranche/tranche/Payout")) (by decide)
          have F22 : Fld Z h19 a19 "com/example/tranche/tranche/Delivery" "tries" "I" (.int (0 : Int32)) := D19 (Or.inr (hw _ wd_60)) (ty := .int) (by decide)
          refine X19.callI hl (argsL := [(.ref r_3), (.ref a7), (.int p1)]) (a := a19) i7_199 (c_del l hw hEL hcs hcz X19.old a19 r_3 a7 p1 A19 g19 F20 F21 F22) (hw _ wd_51) (hw _ wd_52) (hw _ wd_50) (hw _ wd_53) rfl (by decide) sf_nil pd5 rfl rfl rfl (W := 1) rfl (by decide) (by decide) (k' := 15) rfl (n' := 35) rfl (by decide) (by decide) fun vm23 T23 h23 v23 X23 r23 Q23 => ?_
          obtain ⟨rfl, q23_0, q23_1, q23_2⟩ := Q23
          show Go _ _ _ _ _ _ _ T23 202 #[.val (.int p0), .val (.int p1), .val (.int p2), .val (.int p3), .val (.int (p0 &&& (255 : Int32))), .val (.int (((p0.toUInt32 >>> ((8 : Int32) &&& 31).toUInt32).toInt32) &&& (255 : Int32))), .val (.int b0), .val (.int b1), .val (.int r_1), .val (.int r_2), .val (.int t2), .val (.ref r_3), .val (.ref r_5), .val (.ref k1), .val (.ref k2), .val (.ref a7), .val (.ref a13), .unset, .unset, .unset, .unset, .unset, .unset] [(.ref a19)]
          refine X23.astore i7_202 rfl (Ls' := #[.val (.int p0), .val (.int p1), .val (.int p2), .val (.int p3), .val (.int (p0 &&& (255 : Int32))), .val (.int (((p0.toUInt32 >>> ((8 : Int32) &&& 31).toUInt32).toInt32) &&& (255 : Int32))), .val (.int b0), .val (.int b1), .val (.int r_1), .val (.int r_2), .val (.int t2), .val (.ref r_3), .val (.ref r_5), .val (.ref k1), .val (.ref k2), .val (.ref a7), .val (.ref a13), .val (.ref a19), .unset, .unset, .unset, .unset, .unset]) rfl ?_
          refine X23.new i7_204 (hw _ wd_48) (hw _ wd_49) (hw _ wd_50) (k' := 16) rfl (n' := 38) rfl (by decide) (by decide) fun T24 h24 a24 X24 E24 z24 g24 A24 D24 U24 Sf24 => ?_
          refine X24.dup i7_207 rfl ?_
          refine X24.aload i7_208 rfl rfl ?_
          refine X24.aload i7_210 rfl rfl ?_
          refine X24.iload i7_212 rfl ?_
          have F25 : Fld Z h24 a24 "com/example/tranche/tranche/Delivery" "payoutId" "Ljava/lang/String;" .null := D24 (Or.inr (hw _ wd_56)) (ty := (.object "java/lang/String")) (by decide)
          have F26 : Fld Z h24 a24 "com/example/tranche/tranche/Delivery" "payout" "Lcom/example/tranche/tranche/Payout;" .null := D24 (Or.inr (hw _ wd_58)) (ty := (.object "com/example/tranche/tranche/Payout")) (by decide)
          have F27 : Fld Z h24 a24 "com/example/tranche/tranche/Delivery" "tries" "I" (.int (0 : Int32)) := D24 (Or.inr (hw _ wd_60)) (ty := .int) (by decide)
          refine X24.callI hl (argsL := [(.ref r_5), (.ref a13), (.int t2)]) (a := a24) i7_214 (c_del l hw hEL hcs hcz X24.old a24 r_5 a13 t2 A24 g24 F25 F26 F27) (hw _ wd_51) (hw _ wd_52) (hw _ wd_50) (hw _ wd_53) rfl (by decide) sf_nil pd5 rfl rfl rfl (W := 1) rfl (by decide) (by decide) (k' := 16) rfl (n' := 38) rfl (by decide) (by decide) fun vm28 T28 h28 v28 X28 r28 Q28 => ?_
          obtain ⟨rfl, q28_0, q28_1, q28_2⟩ := Q28
          show Go _ _ _ _ _ _ _ T28 217 #[.val (.int p0), .val (.int p1), .val (.int p2), .val (.int p3), .val (.int (p0 &&& (255 : Int32))), .val (.int (((p0.toUInt32 >>> ((8 : Int32) &&& 31).toUInt32).toInt32) &&& (255 : Int32))), .val (.int b0), .val (.int b1), .val (.int r_1), .val (.int r_2), .val (.int t2), .val (.ref r_3), .val (.ref r_5), .val (.ref k1), .val (.ref k2), .val (.ref a7), .val (.ref a13), .val (.ref a19), .unset, .unset, .unset, .unset, .unset] [(.ref a24)]
          refine X28.astore i7_217 rfl (Ls' := #[.val (.int p0), .val (.int p1), .val (.int p2), .val (.int p3), .val (.int (p0 &&& (255 : Int32))), .val (.int (((p0.toUInt32 >>> ((8 : Int32) &&& 31).toUInt32).toInt32) &&& (255 : Int32))), .val (.int b0), .val (.int b1), .val (.int r_1), .val (.int r_2), .val (.int t2), .val (.ref r_3), .val (.ref r_5), .val (.ref k1), .val (.ref k2), .val (.ref a7), .val (.ref a13), .val (.ref a19), .val (.ref a24), .unset, .unset, .unset, .unset]) rfl ?_
          obtain ⟨wh, hwh⟩ : ∃ z, (((p3.toUInt32 >>> ((2 : Int32) &&& 31).toUInt32).toInt32) &&& (3 : Int32)) = z := ⟨_, rfl⟩
          have hw4 := own_and3 ((p3.toUInt32 >>> ((2 : Int32) &&& 31).toUInt32).toInt32)
          rw [hwh] at hw4
          rcases hw4 with rfl | rfl | rfl | rfl
          · skip
            refine X28.iload_n i7_219 rfl ?_
            refine X28.iconst i7_220 (z := (2 : Int32)) rfl ?_
            refine X28.iushr i7_221 (z := ((p3.toUInt32 >>> ((2 : Int32) &&& 31).toUInt32).toInt32)) rfl ?_
            refine X28.iconst i7_222 (z := (3 : Int32)) rfl ?_
            refine X28.iand i7_223 (z := (0 : Int32)) hwh ?_
            refine X28.istore i7_224 (Ls' := #[.val (.int p0), .val (.int p1), .val (.int p2), .val (.int p3), .val (.int (p0 &&& (255 : Int32))), .val (.int (((p0.toUInt32 >>> ((8 : Int32) &&& 31).toUInt32).toInt32) &&& (255 : Int32))), .val (.int b0), .val (.int b1), .val (.int r_1), .val (.int r_2), .val (.int t2), .val (.ref r_3), .val (.ref r_5), .val (.ref k1), .val (.ref k2), .val (.ref a7), .val (.ref a13), .val (.ref a19), .val (.ref a24), .val (.int (0 : Int32)), .unset, .unset, .unset]) rfl ?_
            refine X28.iload i7_226 rfl ?_
            refine X28.ifN i7_228 (by decide) ?_
            refine X28.aload i7_231 rfl rfl ?_
            refine X28.astore i7_233 rfl (Ls' := #[.val (.int p0), .val (.int p1), .val (.int p2), .val (.int p3), .val (.int (p0 &&& (255 : Int32))), .val (.int (((p0.toUInt32 >>> ((8 : Int32) &&& 31).toUInt32).toInt32) &&& (255 : Int32))), .val (.int b0), .val (.int b1), .val (.int r_1), .val (.int r_2), .val (.int t2), .val (.ref r_3), .val (.ref r_5), .val (.ref k1), .val (.ref k2), .val (.ref a7), .val (.ref a13), .val (.ref a19), .val (.ref a24), .val (.int (0 : Int32)), .val (.ref a24), .unset, .unset]) rfl ?_
            refine X28.goto i7_235 j235_32 ?_
            have J305 : ∀ (iq : Int32) (hiq : (iq = 1 ∧ (own_mk r_1 (p0 &&& (255 : Int32)) (((p0.toUInt32 >>> ((8 : Int32) &&& 31).toUInt32).toInt32) &&& (255 : Int32))) = (own_mk r_2 b0 b1)) ∨ (iq = 0 ∧ ¬ (own_mk r_1 (p0 &&& (255 : Int32)) (((p0.toUInt32 >>> ((8 : Int32) &&& 31).toUInt32).toInt32) &&& (255 : Int32))) = (own_mk r_2 b0 b1))), Go C room_1 false Z own_EL Z.heap.size (fun v h' => v = some (.int (1 : Int32))) T28 305 #[.val (.int p0), .val (.int p1), .val (.int p2), .val (.int p3), .val (.int (p0 &&& (255 : Int32))), .val (.int (((p0.toUInt32 >>> ((8 : Int32) &&& 31).toUInt32).toInt32) &&& (255 : Int32))), .val (.int b0), .val (.int b1), .val (.int r_1), .val (.int r_2), .val (.int t2), .val (.ref r_3), .val (.ref r_5), .val (.ref k1), .val (.ref k2), .val (.ref a7), .val (.ref a13), .val (.ref a19), .val (.ref a24), .val (.int (0 : Int32)), .val (.ref a24), .unset, .unset] [(.int iq)] := by
              intro iq hiq
              rcases hiq with ⟨rfl, he⟩ | ⟨rfl, he⟩
              · skip
                refine X28.istore i7_305 (Ls' := #[.val (.int p0), .val (.int p1), .val (.int p2), .val (.int p3), .val (.int (p0 &&& (255 : Int32))), .val (.int (((p0.toUInt32 >>> ((8 : Int32) &&& 31).toUInt32).toInt32) &&& (255 : Int32))), .val (.int b0), .val (.int b1), .val (.int r_1), .val (.int r_2), .val (.int t2), .val (.ref r_3), .val (.ref r_5), .val (.ref k1), .val (.ref k2), .val (.ref a7), .val (.ref a13), .val (.ref a19), .val (.ref a24), .val (.int (0 : Int32)), .val (.ref a24), .val (.int (1 : Int32)), .unset]) rfl ?_
                refine X28.iload i7_307 rfl ?_
                refine X28.ifN i7_309 (by decide) ?_
                refine X28.iload i7_312 rfl ?_
                refine X28.ifN i7_314 (by decide) ?_
                refine X28.iload_n i7_317 rfl ?_
                refine X28.iload i7_318 rfl ?_
                by_cases ht : ¬ p1 = t2
                · skip
                  refine X28.icY i7_320 j320_7 (XT.ii_ne_t ht) ?_
                  refine X28.iconst i7_327 (z := (0 : Int32)) rfl ?_
                  refine X28.istore i7_328 (Ls' := #[.val (.int p0), .val (.int p1), .val (.int p2), .val (.int p3), .val (.int (p0 &&& (255 : Int32))), .val (.int (((p0.toUInt32 >>> ((8 : Int32) &&& 31).toUInt32).toInt32) &&& (255 : Int32))), .val (.int b0), .val (.int b1), .val (.int r_1), .val (.int r_2), .val (.int t2), .val (.ref r_3), .val (.ref r_5), .val (.ref k1), .val (.ref k2), .val (.ref a7), .val (.ref a13), .val (.ref a19), .val (.ref a24), .val (.int (0 : Int32)), .val (.ref a24), .val (.int (1 : Int32)), .val (.int (0 : Int32))]) rfl ?_
                  refine X28.goto i7_330 j330_18 ?_
                  refine X28.aload i7_348 rfl rfl ?_
                  refine X28.aload i7_350 rfl rfl ?_
                  have F29 := ((q23_1.ext E24).keep q28_0 (ninS (Nat.ne_of_lt (Nat.lt_of_lt_of_le (q23_1).lt (Nat.le_of_eq z24))) nin0))
                  have F30 := ((q23_2.ext E24).keep q28_0 (ninS (Nat.ne_of_lt (Nat.lt_of_lt_of_le (q23_1).lt (Nat.le_of_eq z24))) nin0))
                  have S31 := (((((((((q3_2.ext q5_0).ext E7).keep q12_0 (ninS (Nat.ne_of_lt (Nat.lt_of_lt_of_le (Nat.lt_of_lt_of_le (q3_2).lt q5_0.1) (Nat.le_of_eq z7))) nin0) (ninS (Nat.ne_of_lt (Nat.lt_of_lt_of_le (Nat.lt_of_lt_of_le (q3_2).ltT q5_0.1) (Nat.le_of_eq z7))) nin0)).ext E13).keep q18_0 (ninS (Nat.ne_of_lt (Nat.lt_of_lt_of_le (Nat.lt_of_lt_of_le (Nat.lt_of_lt_of_le (Nat.lt_of_lt_of_le (q3_2).lt q5_0.1) E7.1) q12_0.1) (Nat.le_of_eq z13))) nin0) (ninS (Nat.ne_of_lt (Nat.lt_of_lt_of_le (Nat.lt_of_lt_of_le (Nat.lt_of_lt_of_le (Nat.lt_of_lt_of_le (q3_2).ltT q5_0.1) E7.1) q12_0.1) (Nat.le_of_eq z13))) nin0)).ext E19).keep q23_0 (ninS (Nat.ne_of_lt (Nat.lt_of_lt_of_le (Nat.lt_of_lt_of_le (Nat.lt_of_lt_of_le (Nat.lt_of_lt_of_le (Nat.lt_of_lt_of_le (Nat.lt_of_lt_of_le (q3_2).lt q5_0.1) E7.1) q12_0.1) E13.1) q18_0.1) (Nat.le_of_eq z19))) nin0) (ninS (Nat.ne_of_lt (Nat.lt_of_lt_of_le (Nat.lt_of_lt_of_le (Nat.lt_of_lt_of_le (Nat.lt_of_lt_of_le (Nat.lt_of_lt_of_le (Nat.lt_of_lt_of_le (q3_2).ltT q5_0.1) E7.1) q12_0.1) E13.1) q18_0.1) (Nat.le_of_eq z19))) nin0)).ext E24).keep q28_0 (ninS (Nat.ne_of_lt (Nat.lt_of_lt_of_le (Nat.lt_of_lt_of_le (Nat.lt_of_lt_of_le (Nat.lt_of_lt_of_le (Nat.lt_of_lt_of_le (Nat.lt_of_lt_of_le (Nat.lt_of_lt_of_le (Nat.lt_of_lt_of_le (q3_2).lt q5_0.1) E7.1) q12_0.1) E13.1) q18_0.1) E19.1) q23_0.1) (Nat.le_of_eq z24))) nin0) (ninS (Nat.ne_of_lt (Nat.lt_of_lt_of_le (Nat.lt_of_lt_of_le (Nat.lt_of_lt_of_le (Nat.lt_of_lt_of_le (Nat.lt_of_lt_of_le (Nat.lt_of_lt_of_le (Nat.lt_of_lt_of_le (Nat.lt_of_lt_of_le (q3_2).ltT q5_0.1) E7.1) q12_0.1) E13.1) q18_0.1) E19.1) q23_0.1) (Nat.le_of_eq z24))) nin0))
                  have E32 := (A24.keep q28_0)
                  have S33 := ((((((((q5_2.ext E7).keep q12_0 (ninS (Nat.ne_of_lt (Nat.lt_of_lt_of_le (q5_2).lt (Nat.le_of_eq z7))) nin0) (ninS (Nat.ne_of_lt (Nat.lt_of_lt_of_le (q5_2).ltT (Nat.le_of_eq z7))) nin0)).ext E13).keep q18_0 (ninS (Nat.ne_of_lt (Nat.lt_of_lt_of_le (Nat.lt_of_lt_of_le (Nat.lt_of_lt_of_le (q5_2).lt E7.1) q12_0.1) (Nat.le_of_eq z13))) nin0) (ninS (Nat.ne_of_lt (Nat.lt_of_lt_of_le (Nat.lt_of_lt_of_le (Nat.lt_of_lt_of_le (q5_2).ltT E7.1) q12_0.1) (Nat.le_of_eq z13))) nin0)).ext E19).keep q23_0 (ninS (Nat.ne_of_lt (Nat.lt_of_lt_of_le (Nat.lt_of_lt_of_le (Nat.lt_of_lt_of_le (Nat.lt_of_lt_of_le (Nat.lt_of_lt_of_le (q5_2).lt E7.1) q12_0.1) E13.1) q18_0.1) (Nat.le_of_eq z19))) nin0) (ninS (Nat.ne_of_lt (Nat.lt_of_lt_of_le (Nat.lt_of_lt_of_le (Nat.lt_of_lt_of_le (Nat.lt_of_lt_of_le (Nat.lt_of_lt_of_le (q5_2).ltT E7.1) q12_0.1) E13.1) q18_0.1) (Nat.le_of_eq z19))) nin0)).ext E24).keep q28_0 (ninS (Nat.ne_of_lt (Nat.lt_of_lt_of_le (Nat.lt_of_lt_of_le (Nat.lt_of_lt_of_le (Nat.lt_of_lt_of_le (Nat.lt_of_lt_of_le (Nat.lt_of_lt_of_le (Nat.lt_of_lt_of_le (q5_2).lt E7.1) q12_0.1) E13.1) q18_0.1) E19.1) q23_0.1) (Nat.le_of_eq z24))) nin0) (ninS (Nat.ne_of_lt (Nat.lt_of_lt_of_le (Nat.lt_of_lt_of_le (Nat.lt_of_lt_of_le (Nat.lt_of_lt_of_le (Nat.lt_of_lt_of_le (Nat.lt_of_lt_of_le (Nat.lt_of_lt_of_le (q5_2).ltT E7.1) q12_0.1) E13.1) q18_0.1) E19.1) q23_0.1) (Nat.le_of_eq z24))) nin0))
                  have E35 := (((A19.keep q23_0).ext E24).keep q28_0)
                  refine X28.callV hl (argsL := [(.ref a24)]) (a := a19) i7_352 (c_eqD l hw hEL hcs hcz X28.old a19 a24 r_3 t_3 kb_3 (own_mk r_1 (p0 &&& (255 : Int32)) (((p0.toUInt32 >>> ((8 : Int32) &&& 31).toUInt32).toInt32) &&& (255 : Int32))) p1 r_5 t_5 kb_5 (own_mk r_2 b0 b1) t2 F29 F30 S31 E32 q28_1 q28_2 S33 (own_mklen _ _ _) (own_mklen _ _ _)) E35 (hw _ wd_61) (hw _ wd_62) (hw _ wd_64) (nfSel X28.zw (hw _ wd_64)) (hw _ wd_63) (hw _ wd_50) (hw _ wd_65) (by decide) sf_nil pd6 rfl rfl rfl (W := 0) rfl (by decide) (by decide) (k' := 16) rfl (n' := 38) rfl (by decide) (by decide) fun vm34 T34 h34 v34 X34 r34 Q34 => ?_
                  obtain ⟨r_34, rfl, rfl, q34_1⟩ := Q34
                  show Go _ _ _ _ _ _ _ T34 355 #[.val (.int p0), .val (.int p1), .val (.int p2), .val (.int p3), .val (.int (p0 &&& (255 : Int32))), .val (.int (((p0.toUInt32 >>> ((8 : Int32) &&& 31).toUInt32).toInt32) &&& (255 : Int32))), .val (.int b0), .val (.int b1), .val (.int r_1), .val (.int r_2), .val (.int t2), .val (.ref r_3), .val (.ref r_5), .val (.ref k1), .val (.ref k2), .val (.ref a7), .val (.ref a13), .val (.ref a19), .val (.ref a24), .val (.int (0 : Int32)), .val (.ref a24), .val (.int (1 : Int32)), .val (.int (0 : Int32))] [(.int r_34)]
                  rcases q34_1 with ⟨rfl, hm1, hm2⟩ | ⟨rfl, hm⟩
                  · skip
                    exact absurd hm2.symm ht
                  · skip
                    refine X34.iload i7_355 rfl ?_
                    refine X34.icN i7_357 (by decide) ?_
                    refine X34.iconst i7_360 (z := (1 : Int32)) rfl ?_
                    refine X34.goto i7_361 j361_4 ?_
                    exact X34.ireturn i7_365 (t := .boolean) rfl (by decide) rfl (by decide) (by decide) rfl
                · skip
                  have ht := Classical.not_not.mp ht
                  refine X28.icN i7_320 (XT.ii_ne_f ht) ?_
                  refine X28.iconst i7_323 (z := (1 : Int32)) rfl ?_
                  refine X28.goto i7_324 j324_4 ?_
                  refine X28.istore i7_328 (Ls' := #[.val (.int p0), .val (.int p1), .val (.int p2), .val (.int p3), .val (.int (p0 &&& (255 : Int32))), .val (.int (((p0.toUInt32 >>> ((8 : Int32) &&& 31).toUInt32).toInt32) &&& (255 : Int32))), .val (.int b0), .val (.int b1), .val (.int r_1), .val (.int r_2), .val (.int t2), .val (.ref r_3), .val (.ref r_5), .val (.ref k1), .val (.ref k2), .val (.ref a7), .val (.ref a13), .val (.ref a19), .val (.ref a24), .val (.int (0 : Int32)), .val (.ref a24), .val (.int (1 : Int32)), .val (.int (1 : Int32))]) rfl ?_
                  refine X28.goto i7_330 j330_18 ?_
                  refine X28.aload i7_348 rfl rfl ?_
                  refine X28.aload i7_350 rfl rfl ?_
                  have F36 := ((q23_1.ext E24).keep q28_0 (ninS (Nat.ne_of_lt (Nat.lt_of_lt_of_le (q23_1).lt (Nat.le_of_eq z24))) nin0))
                  have F37 := ((q23_2.ext E24).keep q28_0 (ninS (Nat.ne_of_lt (Nat.lt_of_lt_of_le (q23_1).lt (Nat.le_of_eq z24))) nin0))
                  have S38 := (((((((((q3_2.ext q5_0).ext E7).keep q12_0 (ninS (Nat.ne_of_lt (Nat.lt_of_lt_of_le (Nat.lt_of_lt_of_le (q3_2).lt q5_0.1) (Nat.le_of_eq z7))) nin0) (ninS (Nat.ne_of_lt (Nat.lt_of_lt_of_le (Nat.lt_of_lt_of_le (q3_2).ltT q5_0.1) (Nat.le_of_eq z7))) nin0)).ext E13).keep q18_0 (ninS (Nat.ne_of_lt (Nat.lt_of_lt_of_le (Nat.lt_of_lt_of_le (Nat.lt_of_lt_of_le (Nat.lt_of_lt_of_le (q3_2).lt q5_0.1) E7.1) q12_0.1) (Nat.le_of_eq z13))) nin0) (ninS (Nat.ne_of_lt (Nat.lt_of_lt_of_le (Nat.lt_of_lt_of_le (Nat.lt_of_lt_of_le (Nat.lt_of_lt_of_le (q3_2).ltT q5_0.1) E7.1) q12_0.1) (Nat.le_of_eq z13))) nin0)).ext E19).keep q23_0 (ninS (Nat.ne_of_lt (Nat.lt_of_lt_of_le (Nat.lt_of_lt_of_le (Nat.lt_of_lt_of_le (Nat.lt_of_lt_of_le (Nat.lt_of_lt_of_le (Nat.lt_of_lt_of_le (q3_2).lt q5_0.1) E7.1) q12_0.1) E13.1) q18_0.1) (Nat.le_of_eq z19))) nin0) (ninS (Nat.ne_of_lt (Nat.lt_of_lt_of_le (Nat.lt_of_lt_of_le (Nat.lt_of_lt_of_le (Nat.lt_of_lt_of_le (Nat.lt_of_lt_of_le (Nat.lt_of_lt_of_le (q3_2).ltT q5_0.1) E7.1) q12_0.1) E13.1) q18_0.1) (Nat.le_of_eq z19))) nin0)).ext E24).keep q28_0 (ninS (Nat.ne_of_lt (Nat.lt_of_lt_of_le (Nat.lt_of_lt_of_le (Nat.lt_of_lt_of_le (Nat.lt_of_lt_of_le (Nat.lt_of_lt_of_le (Nat.lt_of_lt_of_le (Nat.lt_of_lt_of_le (Nat.lt_of_lt_of_le (q3_2).lt q5_0.1) E7.1) q12_0.1) E13.1) q18_0.1) E19.1) q23_0.1) (Nat.le_of_eq z24))) nin0) (ninS (Nat.ne_of_lt (Nat.lt_of_lt_of_le (Nat.lt_of_lt_of_le (Nat.lt_of_lt_of_le (Nat.lt_of_lt_of_le (Nat.lt_of_lt_of_le (Nat.lt_of_lt_of_le (Nat.lt_of_lt_of_le (Nat.lt_of_lt_of_le (q3_2).ltT q5_0.1) E7.1) q12_0.1) E13.1) q18_0.1) E19.1) q23_0.1) (Nat.le_of_eq z24))) nin0))
                  have E39 := (A24.keep q28_0)
                  have S40 := ((((((((q5_2.ext E7).keep q12_0 (ninS (Nat.ne_of_lt (Nat.lt_of_lt_of_le (q5_2).lt (Nat.le_of_eq z7))) nin0) (ninS (Nat.ne_of_lt (Nat.lt_of_lt_of_le (q5_2).ltT (Nat.le_of_eq z7))) nin0)).ext E13).keep q18_0 (ninS (Nat.ne_of_lt (Nat.lt_of_lt_of_le (Nat.lt_of_lt_of_le (Nat.lt_of_lt_of_le (q5_2).lt E7.1) q12_0.1) (Nat.le_of_eq z13))) nin0) (ninS (Nat.ne_of_lt (Nat.lt_of_lt_of_le (Nat.lt_of_lt_of_le (Nat.lt_of_lt_of_le (q5_2).ltT E7.1) q12_0.1) (Nat.le_of_eq z13))) nin0)).ext E19).keep q23_0 (ninS (Nat.ne_of_lt (Nat.lt_of_lt_of_le (Nat.lt_of_lt_of_le (Nat.lt_of_lt_of_le (Nat.lt_of_lt_of_le (Nat.lt_of_lt_of_le (q5_2).lt E7.1) q12_0.1) E13.1) q18_0.1) (Nat.le_of_eq z19))) nin0) (ninS (Nat.ne_of_lt (Nat.lt_of_lt_of_le (Nat.lt_of_lt_of_le (Nat.lt_of_lt_of_le (Nat.lt_of_lt_of_le (Nat.lt_of_lt_of_le (q5_2).ltT E7.1) q12_0.1) E13.1) q18_0.1) (Nat.le_of_eq z19))) nin0)).ext E24).keep q28_0 (ninS (Nat.ne_of_lt (Nat.lt_of_lt_of_le (Nat.lt_of_lt_of_le (Nat.lt_of_lt_of_le (Nat.lt_of_lt_of_le (Nat.lt_of_lt_of_le (Nat.lt_of_lt_of_le (Nat.lt_of_lt_of_le (q5_2).lt E7.1) q12_0.1) E13.1) q18_0.1) E19.1) q23_0.1) (Nat.le_of_eq z24))) nin0) (ninS (Nat.ne_of_lt (Nat.lt_of_lt_of_le (Nat.lt_of_lt_of_le (Nat.lt_of_lt_of_le (Nat.lt_of_lt_of_le (Nat.lt_of_lt_of_le (Nat.lt_of_lt_of_le (Nat.lt_of_lt_of_le (q5_2).ltT E7.1) q12_0.1) E13.1) q18_0.1) E19.1) q23_0.1) (Nat.le_of_eq z24))) nin0))
                  have E42 := (((A19.keep q23_0).ext E24).keep q28_0)
                  refine X28.callV hl (argsL := [(.ref a24)]) (a := a19) i7_352 (c_eqD l hw hEL hcs hcz X28.old a19 a24 r_3 t_3 kb_3 (own_mk r_1 (p0 &&& (255 : Int32)) (((p0.toUInt32 >>> ((8 : Int32) &&& 31).toUInt32).toInt32) &&& (255 : Int32))) p1 r_5 t_5 kb_5 (own_mk r_2 b0 b1) t2 F36 F37 S38 E39 q28_1 q28_2 S40 (own_mklen _ _ _) (own_mklen _ _ _)) E42 (hw _ wd_61) (hw _ wd_62) (hw _ wd_64) (nfSel X28.zw (hw _ wd_64)) (hw _ wd_63) (hw _ wd_50) (hw _ wd_65) (by decide) sf_nil pd6 rfl rfl rfl (W := 0) rfl (by decide) (by decide) (k' := 16) rfl (n' := 38) rfl (by decide) (by decide) fun vm41 T41 h41 v41 X41 r41 Q41 => ?_
                  obtain ⟨r_41, rfl, rfl, q41_1⟩ := Q41
                  show Go _ _ _ _ _ _ _ T41 355 #[.val (.int p0), .val (.int p1), .val (.int p2), .val (.int p3), .val (.int (p0 &&& (255 : Int32))), .val (.int (((p0.toUInt32 >>> ((8 : Int32) &&& 31).toUInt32).toInt32) &&& (255 : Int32))), .val (.int b0), .val (.int b1), .val (.int r_1), .val (.int r_2), .val (.int t2), .val (.ref r_3), .val (.ref r_5), .val (.ref k1), .val (.ref k2), .val (.ref a7), .val (.ref a13), .val (.ref a19), .val (.ref a24), .val (.int (0 : Int32)), .val (.ref a24), .val (.int (1 : Int32)), .val (.int (1 : Int32))] [(.int r_41)]
                  rcases q41_1 with ⟨rfl, hm1, hm2⟩ | ⟨rfl, hm⟩
                  · skip
                    refine X41.iload i7_355 rfl ?_
                    refine X41.icN i7_357 (by decide) ?_
                    refine X41.iconst i7_360 (z := (1 : Int32)) rfl ?_
                    refine X41.goto i7_361 j361_4 ?_
                    exact X41.ireturn i7_365 (t := .boolean) rfl (by decide) rfl (by decide) (by decide) rfl
                  · skip
                    exact absurd ⟨he.symm, ht.symm⟩ hm
              · skip
                refine X28.istore i7_305 (Ls' := #[.val (.int p0), .val (.int p1), .val (.int p2), .val (.int p3), .val (.int (p0 &&& (255 : Int32))), .val (.int (((p0.toUInt32 >>> ((8 : Int32) &&& 31).toUInt32).toInt32) &&& (255 : Int32))), .val (.int b0), .val (.int b1), .val (.int r_1), .val (.int r_2), .val (.int t2), .val (.ref r_3), .val (.ref r_5), .val (.ref k1), .val (.ref k2), .val (.ref a7), .val (.ref a13), .val (.ref a19), .val (.ref a24), .val (.int (0 : Int32)), .val (.ref a24), .val (.int (0 : Int32)), .unset]) rfl ?_
                refine X28.iload i7_307 rfl ?_
                refine X28.ifN i7_309 (by decide) ?_
                refine X28.iload i7_312 rfl ?_
                refine X28.ifY i7_314 j314_13 (by decide) ?_
                refine X28.iconst i7_327 (z := (0 : Int32)) rfl ?_
                refine X28.istore i7_328 (Ls' := #[.val (.int p0), .val (.int p1), .val (.int p2), .val (.int p3), .val (.int (p0 &&& (255 : Int32))), .val (.int (((p0.toUInt32 >>> ((8 : Int32) &&& 31).toUInt32).toInt32) &&& (255 : Int32))), .val (.int b0), .val (.int b1), .val (.int r_1), .val (.int r_2), .val (.int t2), .val (.ref r_3), .val (.ref r_5), .val (.ref k1), .val (.ref k2), .val (.ref a7), .val (.ref a13), .val (.ref a19), .val (.ref a24), .val (.int (0 : Int32)), .val (.ref a24), .val (.int (0 : Int32)), .val (.int (0 : Int32))]) rfl ?_
                refine X28.goto i7_330 j330_18 ?_
                refine X28.aload i7_348 rfl rfl ?_
                refine X28.aload i7_350 rfl rfl ?_
                have F43 := ((q23_1.ext E24).keep q28_0 (ninS (Nat.ne_of_lt (Nat.lt_of_lt_of_le (q23_1).lt (Nat.le_of_eq z24))) nin0))
                have F44 := ((q23_2.ext E24).keep q28_0 (ninS (Nat.ne_of_lt (Nat.lt_of_lt_of_le (q23_1).lt (Nat.le_of_eq z24))) nin0))
                have S45 := (((((((((q3_2.ext q5_0).ext E7).keep q12_0 (ninS (Nat.ne_of_lt (Nat.lt_of_lt_of_le (Nat.lt_of_lt_of_le (q3_2).lt q5_0.1) (Nat.le_of_eq z7))) nin0) (ninS (Nat.ne_of_lt (Nat.lt_of_lt_of_le (Nat.lt_of_lt_of_le (q3_2).ltT q5_0.1) (Nat.le_of_eq z7))) nin0)).ext E13).keep q18_0 (ninS (Nat.ne_of_lt (Nat.lt_of_lt_of_le (Nat.lt_of_lt_of_le (Nat.lt_of_lt_of_le (Nat.lt_of_lt_of_le (q3_2).lt q5_0.1) E7.1) q12_0.1) (Nat.le_of_eq z13))) nin0) (ninS (Nat.ne_of_lt (Nat.lt_of_lt_of_le (Nat.lt_of_lt_of_le (Nat.lt_of_lt_of_le (Nat.lt_of_lt_of_le (q3_2).ltT q5_0.1) E7.1) q12_0.1) (Nat.le_of_eq z13))) nin0)).ext E19).keep q23_0 (ninS (Nat.ne_of_lt (Nat.lt_of_lt_of_le (Nat.lt_of_lt_of_le (Nat.lt_of_lt_of_le (Nat.lt_of_lt_of_le (Nat.lt_of_lt_of_le (Nat.lt_of_lt_of_le (q3_2).lt q5_0.1) E7.1) q12_0.1) E13.1) q18_0.1) (Nat.le_of_eq z19))) nin0) (ninS (Nat.ne_of_lt (Nat.lt_of_lt_of_le (Nat.lt_of_lt_of_le (Nat.lt_of_lt_of_le (Nat.lt_of_lt_of_le (Nat.lt_of_lt_of_le (Nat.lt_of_lt_of_le (q3_2).ltT q5_0.1) E7.1) q12_0.1) E13.1) q18_0.1) (Nat.le_of_eq z19))) nin0)).ext E24).keep q28_0 (ninS (Nat.ne_of_lt (Nat.lt_of_lt_of_le (Nat.lt_of_lt_of_le (Nat.lt_of_lt_of_le (Nat.lt_of_lt_of_le (Nat.lt_of_lt_of_le (Nat.lt_of_lt_of_le (Nat.lt_of_lt_of_le (Nat.lt_of_lt_of_le (q3_2).lt q5_0.1) E7.1) q12_0.1) E13.1) q18_0.1) E19.1) q23_0.1) (Nat.le_of_eq z24))) nin0) (ninS (Nat.ne_of_lt (Nat.lt_of_lt_of_le (Nat.lt_of_lt_of_le (Nat.lt_of_lt_of_le (Nat.lt_of_lt_of_le (Nat.lt_of_lt_of_le (Nat.lt_of_lt_of_le (Nat.lt_of_lt_of_le (Nat.lt_of_lt_of_le (q3_2).ltT q5_0.1) E7.1) q12_0.1) E13.1) q18_0.1) E19.1) q23_0.1) (Nat.le_of_eq z24))) nin0))
                have E46 := (A24.keep q28_0)
                have S47 := ((((((((q5_2.ext E7).keep q12_0 (ninS (Nat.ne_of_lt (Nat.lt_of_lt_of_le (q5_2).lt (Nat.le_of_eq z7))) nin0) (ninS (Nat.ne_of_lt (Nat.lt_of_lt_of_le (q5_2).ltT (Nat.le_of_eq z7))) nin0)).ext E13).keep q18_0 (ninS (Nat.ne_of_lt (Nat.lt_of_lt_of_le (Nat.lt_of_lt_of_le (Nat.lt_of_lt_of_le (q5_2).lt E7.1) q12_0.1) (Nat.le_of_eq z13))) nin0) (ninS (Nat.ne_of_lt (Nat.lt_of_lt_of_le (Nat.lt_of_lt_of_le (Nat.lt_of_lt_of_le (q5_2).ltT E7.1) q12_0.1) (Nat.le_of_eq z13))) nin0)).ext E19).keep q23_0 (ninS (Nat.ne_of_lt (Nat.lt_of_lt_of_le (Nat.lt_of_lt_of_le (Nat.lt_of_lt_of_le (Nat.lt_of_lt_of_le (Nat.lt_of_lt_of_le (q5_2).lt E7.1) q12_0.1) E13.1) q18_0.1) (Nat.le_of_eq z19))) nin0) (ninS (Nat.ne_of_lt (Nat.lt_of_lt_of_le (Nat.lt_of_lt_of_le (Nat.lt_of_lt_of_le (Nat.lt_of_lt_of_le (Nat.lt_of_lt_of_le (q5_2).ltT E7.1) q12_0.1) E13.1) q18_0.1) (Nat.le_of_eq z19))) nin0)).ext E24).keep q28_0 (ninS (Nat.ne_of_lt (Nat.lt_of_lt_of_le (Nat.lt_of_lt_of_le (Nat.lt_of_lt_of_le (Nat.lt_of_lt_of_le (Nat.lt_of_lt_of_le (Nat.lt_of_lt_of_le (Nat.lt_of_lt_of_le (q5_2).lt E7.1) q12_0.1) E13.1) q18_0.1) E19.1) q23_0.1) (Nat.le_of_eq z24))) nin0) (ninS (Nat.ne_of_lt (Nat.lt_of_lt_of_le (Nat.lt_of_lt_of_le (Nat.lt_of_lt_of_le (Nat.lt_of_lt_of_le (Nat.lt_of_lt_of_le (Nat.lt_of_lt_of_le (Nat.lt_of_lt_of_le (q5_2).ltT E7.1) q12_0.1) E13.1) q18_0.1) E19.1) q23_0.1) (Nat.le_of_eq z24))) nin0))
                have E49 := (((A19.keep q23_0).ext E24).keep q28_0)
                refine X28.callV hl (argsL := [(.ref a24)]) (a := a19) i7_352 (c_eqD l hw hEL hcs hcz X28.old a19 a24 r_3 t_3 kb_3 (own_mk r_1 (p0 &&& (255 : Int32)) (((p0.toUInt32 >>> ((8 : Int32) &&& 31).toUInt32).toInt32) &&& (255 : Int32))) p1 r_5 t_5 kb_5 (own_mk r_2 b0 b1) t2 F43 F44 S45 E46 q28_1 q28_2 S47 (own_mklen _ _ _) (own_mklen _ _ _)) E49 (hw _ wd_61) (hw _ wd_62) (hw _ wd_64) (nfSel X28.zw (hw _ wd_64)) (hw _ wd_63) (hw _ wd_50) (hw _ wd_65) (by decide) sf_nil pd6 rfl rfl rfl (W := 0) rfl (by decide) (by decide) (k' := 16) rfl (n' := 38) rfl (by decide) (by decide) fun vm48 T48 h48 v48 X48 r48 Q48 => ?_
                obtain ⟨r_48, rfl, rfl, q48_1⟩ := Q48
                show Go _ _ _ _ _ _ _ T48 355 #[.val (.int p0), .val (.int p1), .val (.int p2), .val (.int p3), .val (.int (p0 &&& (255 : Int32))), .val (.int (((p0.toUInt32 >>> ((8 : Int32) &&& 31).toUInt32).toInt32) &&& (255 : Int32))), .val (.int b0), .val (.int b1), .val (.int r_1), .val (.int r_2), .val (.int t2), .val (.ref r_3), .val (.ref r_5), .val (.ref k1), .val (.ref k2), .val (.ref a7), .val (.ref a13), .val (.ref a19), .val (.ref a24), .val (.int (0 : Int32)), .val (.ref a24), .val (.int (0 : Int32)), .val (.int (0 : Int32))] [(.int r_48)]
                rcases q48_1 with ⟨rfl, hm1, hm2⟩ | ⟨rfl, hm⟩
                · skip
                  exact absurd hm1.symm he
                · skip
                  refine X48.iload i7_355 rfl ?_
                  refine X48.icN i7_357 (by decide) ?_
                  refine X48.iconst i7_360 (z := (1 : Int32)) rfl ?_
                  refine X48.goto i7_361 j361_4 ?_
                  exact X48.ireturn i7_365 (t := .boolean) rfl (by decide) rfl (by decide) (by decide) rfl
            rcases hr1 with rfl | rfl | rfl <;> rcases hr2 with rfl | rfl | rfl
            · skip
              refine X28.iload i7_267 rfl ?_
              refine X28.iload i7_269 rfl ?_
              refine X28.icN i7_271 (by decide) ?_
              refine X28.iload i7_274 rfl ?_
              refine X28.iconst i7_276 (z := (1 : Int32)) rfl ?_
              refine X28.icY i7_277 j277_10 (by decide) ?_
              refine X28.iload i7_287 rfl ?_
              refine X28.iconst i7_289 (z := (2 : Int32)) rfl ?_
              refine X28.icY i7_290 j290_10 (by decide) ?_
              refine X28.iconst i7_300 (z := (1 : Int32)) rfl ?_
              refine X28.goto i7_301 j301_4 ?_
              exact J305 _ (Or.inl ⟨rfl, by rw [own_mk0, own_mk0]⟩)
            · skip
              refine X28.iload i7_267 rfl ?_
              refine X28.iload i7_269 rfl ?_
              refine X28.icY i7_271 j271_33 (by decide) ?_
              refine X28.iconst i7_304 (z := (0 : Int32)) rfl ?_
              exact J305 _ (Or.inr ⟨rfl, by rw [own_mk0, own_mk1]; simp⟩)
            · skip
              refine X28.iload i7_267 rfl ?_
              refine X28.iload i7_269 rfl ?_
              refine X28.icY i7_271 j271_33 (by decide) ?_
              refine X28.iconst i7_304 (z := (0 : Int32)) rfl ?_
              exact J305 _ (Or.inr ⟨rfl, by rw [own_mk0, own_mk2]; simp⟩)
            · skip
              refine X28.iload i7_267 rfl ?_
              refine X28.iload i7_269 rfl ?_
              refine X28.icY i7_271 j271_33 (by decide) ?_
              refine X28.iconst i7_304 (z := (0 : Int32)) rfl ?_
              exact J305 _ (Or.inr ⟨rfl, by rw [own_mk1, own_mk0]; simp⟩)
            · skip
              refine X28.iload i7_267 rfl ?_
              refine X28.iload i7_269 rfl ?_
              refine X28.icN i7_271 (by decide) ?_
              refine X28.iload i7_274 rfl ?_
              refine X28.iconst i7_276 (z := (1 : Int32)) rfl ?_
              refine X28.icN i7_277 (by decide) ?_
              refine X28.iload i7_280 rfl ?_
              refine X28.iload i7_282 rfl ?_
              by_cases h0 : ¬ (p0 &&& (255 : Int32)) = b0
              · skip
                refine X28.icY i7_284 j284_20 (XT.ii_ne_t h0) ?_
                refine X28.iconst i7_304 (z := (0 : Int32)) rfl ?_
                exact J305 _ (Or.inr ⟨rfl, by rw [own_mk1, own_mk1]; exact fun z => h0 (List.cons.inj z).1⟩)
              · skip
                have h0 := Classical.not_not.mp h0
                refine X28.icN i7_284 (XT.ii_ne_f h0) ?_
                refine X28.iload i7_287 rfl ?_
                refine X28.iconst i7_289 (z := (2 : Int32)) rfl ?_
                refine X28.icY i7_290 j290_10 (by decide) ?_
                refine X28.iconst i7_300 (z := (1 : Int32)) rfl ?_
                refine X28.goto i7_301 j301_4 ?_
                exact J305 _ (Or.inl ⟨rfl, by rw [own_mk1, own_mk1, h0]⟩)
            · skip
              refine X28.iload i7_267 rfl ?_
              refine X28.iload i7_269 rfl ?_
              refine X28.icY i7_271 j271_33 (by decide) ?_
              refine X28.iconst i7_304 (z := (0 : Int32)) rfl ?_
              exact J305 _ (Or.inr ⟨rfl, by rw [own_mk1, own_mk2]; simp⟩)
            · skip
              refine X28.iload i7_267 rfl ?_
              refine X28.iload i7_269 rfl ?_
              refine X28.icY i7_271 j271_33 (by decide) ?_
              refine X28.iconst i7_304 (z := (0 : Int32)) rfl ?_
              exact J305 _ (Or.inr ⟨rfl, by rw [own_mk2, own_mk0]; simp⟩)
            · skip
              refine X28.iload i7_267 rfl ?_
              refine X28.iload i7_269 rfl ?_
              refine X28.icY i7_271 j271_33 (by decide) ?_
              refine X28.iconst i7_304 (z := (0 : Int32)) rfl ?_
              exact J305 _ (Or.inr ⟨rfl, by rw [own_mk2, own_mk1]; simp⟩)
            · skip
              refine X28.iload i7_267 rfl ?_
              refine X28.iload i7_269 rfl ?_
              refine X28.icN i7_271 (by decide) ?_
              refine X28.iload i7_274 rfl ?_
              refine X28.iconst i7_276 (z := (1 : Int32)) rfl ?_
              refine X28.icN i7_277 (by decide) ?_
              refine X28.iload i7_280 rfl ?_
              refine X28.iload i7_282 rfl ?_
              by_cases h0 : ¬ (p0 &&& (255 : Int32)) = b0
              · skip
                refine X28.icY i7_284 j284_20 (XT.ii_ne_t h0) ?_
                refine X28.iconst i7_304 (z := (0 : Int32)) rfl ?_
                exact J305 _ (Or.inr ⟨rfl, by rw [own_mk2, own_mk2]; exact fun z => h0 (List.cons.inj z).1⟩)
              · skip
                have h0 := Classical.not_not.mp h0
                refine X28.icN i7_284 (XT.ii_ne_f h0) ?_
                refine X28.iload i7_287 rfl ?_
                refine X28.iconst i7_289 (z := (2 : Int32)) rfl ?_
                refine X28.icN i7_290 (by decide) ?_
                refine X28.iload i7_293 rfl ?_
                refine X28.iload i7_295 rfl ?_
                by_cases h1 : ¬ (((p0.toUInt32 >>> ((8 : Int32) &&& 31).toUInt32).toInt32) &&& (255 : Int32)) = b1
                · skip
                  refine X28.icY i7_297 j297_7 (XT.ii_ne_t h1) ?_
                  refine X28.iconst i7_304 (z := (0 : Int32)) rfl ?_
                  exact J305 _ (Or.inr ⟨rfl, by rw [own_mk2, own_mk2]; exact fun z => h1 (List.cons.inj (List.cons.inj z).2).1⟩)
                · skip
                  have h1 := Classical.not_not.mp h1
                  refine X28.icN i7_297 (XT.ii_ne_f h1) ?_
                  refine X28.iconst i7_300 (z := (1 : Int32)) rfl ?_
                  refine X28.goto i7_301 j301_4 ?_
                  exact J305 _ (Or.inl ⟨rfl, by rw [h0, h1]⟩)
          · skip
            refine X28.iload_n i7_219 rfl ?_
            refine X28.iconst i7_220 (z := (2 : Int32)) rfl ?_
            refine X28.iushr i7_221 (z := ((p3.toUInt32 >>> ((2 : Int32) &&& 31).toUInt32).toInt32)) rfl ?_
            refine X28.iconst i7_222 (z := (3 : Int32)) rfl ?_
            refine X28.iand i7_223 (z := (1 : Int32)) hwh ?_
            refine X28.istore i7_224 (Ls' := #[.val (.int p0), .val (.int p1), .val (.int p2), .val (.int p3), .val (.int (p0 &&& (255 : Int32))), .val (.int (((p0.toUInt32 >>> ((8 : Int32) &&& 31).toUInt32).toInt32) &&& (255 : Int32))), .val (.int b0), .val (.int b1), .val (.int r_1), .val (.int r_2), .val (.int t2), .val (.ref r_3), .val (.ref r_5), .val (.ref k1), .val (.ref k2), .val (.ref a7), .val (.ref a13), .val (.ref a19), .val (.ref a24), .val (.int (1 : Int32)), .unset, .unset, .unset]) rfl ?_
            refine X28.iload i7_226 rfl ?_
            refine X28.ifY i7_228 j228_10 (by decide) ?_
            refine X28.iload i7_238 rfl ?_
            refine X28.iconst i7_240 (z := (1 : Int32)) rfl ?_
            refine X28.icN i7_241 (by decide) ?_
            refine X28.aconst_null i7_244 ?_
            refine X28.astore i7_245 rfl (Ls' := #[.val (.int p0), .val (.int p1), .val (.int p2), .val (.int p3), .val (.int (p0 &&& (255 : Int32))), .val (.int (((p0.toUInt32 >>> ((8 : Int32) &&& 31).toUInt32).toInt32) &&& (255 : Int32))), .val (.int b0), .val (.int b1), .val (.int r_1), .val (.int r_2), .val (.int t2), .val (.ref r_3), .val (.ref r_5), .val (.ref k1), .val (.ref k2), .val (.ref a7), .val (.ref a13), .val (.ref a19), .val (.ref a24), .val (.int (1 : Int32)), .val .null, .unset, .unset]) rfl ?_
            refine X28.goto i7_247 j247_20 ?_
            have J305 : ∀ (iq : Int32) (hiq : (iq = 1 ∧ (own_mk r_1 (p0 &&& (255 : Int32)) (((p0.toUInt32 >>> ((8 : Int32) &&& 31).toUInt32).toInt32) &&& (255 : Int32))) = (own_mk r_2 b0 b1)) ∨ (iq = 0 ∧ ¬ (own_mk r_1 (p0 &&& (255 : Int32)) (((p0.toUInt32 >>> ((8 : Int32) &&& 31).toUInt32).toInt32) &&& (255 : Int32))) = (own_mk r_2 b0 b1))), Go C room_1 false Z own_EL Z.heap.size (fun v h' => v = some (.int (1 : Int32))) T28 305 #[.val (.int p0), .val (.int p1), .val (.int p2), .val (.int p3), .val (.int (p0 &&& (255 : Int32))), .val (.int (((p0.toUInt32 >>> ((8 : Int32) &&& 31).toUInt32).toInt32) &&& (255 : Int32))), .val (.int b0), .val (.int b1), .val (.int r_1), .val (.int r_2), .val (.int t2), .val (.ref r_3), .val (.ref r_5), .val (.ref k1), .val (.ref k2), .val (.ref a7), .val (.ref a13), .val (.ref a19), .val (.ref a24), .val (.int (1 : Int32)), .val .null, .unset, .unset] [(.int iq)] := by
              intro iq hiq
              rcases hiq with ⟨rfl, he⟩ | ⟨rfl, he⟩
              · skip
                refine X28.istore i7_305 (Ls' := #[.val (.int p0), .val (.int p1), .val (.int p2), .val (.int p3), .val (.int (p0 &&& (255 : Int32))), .val (.int (((p0.toUInt32 >>> ((8 : Int32) &&& 31).toUInt32).toInt32) &&& (255 : Int32))), .val (.int b0), .val (.int b1), .val (.int r_1), .val (.int r_2), .val (.int t2), .val (.ref r_3), .val (.ref r_5), .val (.ref k1), .val (.ref k2), .val (.ref a7), .val (.ref a13), .val (.ref a19), .val (.ref a24), .val (.int (1 : Int32)), .val .null, .val (.int (1 : Int32)), .unset]) rfl ?_
                refine X28.iload i7_307 rfl ?_
                refine X28.ifY i7_309 j309_24 (by decide) ?_
                refine X28.iload i7_333 rfl ?_
                refine X28.iconst i7_335 (z := (3 : Int32)) rfl ?_
                refine X28.icY i7_336 j336_9 (by decide) ?_
                refine X28.iconst i7_345 (z := (0 : Int32)) rfl ?_
                refine X28.istore i7_346 (Ls' := #[.val (.int p0), .val (.int p1), .val (.int p2), .val (.int p3), .val (.int (p0 &&& (255 : Int32))), .val (.int (((p0.toUInt32 >>> ((8 : Int32) &&& 31).toUInt32).toInt32) &&& (255 : Int32))), .val (.int b0), .val (.int b1), .val (.int r_1), .val (.int r_2), .val (.int t2), .val (.ref r_3), .val (.ref r_5), .val (.ref k1), .val (.ref k2), .val (.ref a7), .val (.ref a13), .val (.ref a19), .val (.ref a24), .val (.int (1 : Int32)), .val .null, .val (.int (1 : Int32)), .val (.int (0 : Int32))]) rfl ?_
                refine X28.aload i7_348 rfl rfl ?_
                refine X28.aload i7_350 rfl rfl ?_
                have E51 := (((A19.keep q23_0).ext E24).keep q28_0)
                refine X28.callV hl (argsL := [.null]) (a := a19) i7_352 (c_eqN l hw hEL hcs hcz X28.old a19 ) E51 (hw _ wd_61) (hw _ wd_62) (hw _ wd_64) (nfSel X28.zw (hw _ wd_64)) (hw _ wd_63) (hw _ wd_50) (hw _ wd_65) (by decide) sf_nil pd6 rfl rfl rfl (W := 0) rfl (by decide) (by decide) (k' := 16) rfl (n' := 38) rfl (by decide) (by decide) fun vm50 T50 h50 v50 X50 r50 Q50 => ?_
                obtain ⟨rfl, rfl⟩ := Q50
                show Go _ _ _ _ _ _ _ T50 355 #[.val (.int p0), .val (.int p1), .val (.int p2), .val (.int p3), .val (.int (p0 &&& (255 : Int32))), .val (.int (((p0.toUInt32 >>> ((8 : Int32) &&& 31).toUInt32).toInt32) &&& (255 : Int32))), .val (.int b0), .val (.int b1), .val (.int r_1), .val (.int r_2), .val (.int t2), .val (.ref r_3), .val (.ref r_5), .val (.ref k1), .val (.ref k2), .val (.ref a7), .val (.ref a13), .val (.ref a19), .val (.ref a24), .val (.int (1 : Int32)), .val .null, .val (.int (1 : Int32)), .val (.int (0 : Int32))] [(.int (0 : Int32))]
                refine X50.iload i7_355 rfl ?_
                refine X50.icN i7_357 (by decide) ?_
                refine X50.iconst i7_360 (z := (1 : Int32)) rfl ?_
                refine X50.goto i7_361 j361_4 ?_
                exact X50.ireturn i7_365 (t := .boolean) rfl (by decide) rfl (by decide) (by decide) rfl
              · skip
                refine X28.istore i7_305 (Ls' := #[.val (.int p0), .val (.int p1), .val (.int p2), .val (.int p3), .val (.int (p0 &&& (255 : Int32))), .val (.int (((p0.toUInt32 >>> ((8 : Int32) &&& 31).toUInt32).toInt32) &&& (255 : Int32))), .val (.int b0), .val (.int b1), .val (.int r_1), .val (.int r_2), .val (.int t2), .val (.ref r_3), .val (.ref r_5), .val (.ref k1), .val (.ref k2), .val (.ref a7), .val (.ref a13), .val (.ref a19), .val (.ref a24), .val (.int (1 : Int32)), .val .null, .val (.int (0 : Int32)), .unset]) rfl ?_
                refine X28.iload i7_307 rfl ?_
                refine X28.ifY i7_309 j309_24 (by decide) ?_
                refine X28.iload i7_333 rfl ?_
                refine X28.iconst i7_335 (z := (3 : Int32)) rfl ?_
                refine X28.icY i7_336 j336_9 (by decide) ?_
                refine X28.iconst i7_345 (z := (0 : Int32)) rfl ?_
                refine X28.istore i7_346 (Ls' := #[.val (.int p0), .val (.int p1), .val (.int p2), .val (.int p3), .val (.int (p0 &&& (255 : Int32))), .val (.int (((p0.toUInt32 >>> ((8 : Int32) &&& 31).toUInt32).toInt32) &&& (255 : Int32))), .val (.int b0), .val (.int b1), .val (.int r_1), .val (.int r_2), .val (.int t2), .val (.ref r_3), .val (.ref r_5), .val (.ref k1), .val (.ref k2), .val (.ref a7), .val (.ref a13), .val (.ref a19), .val (.ref a24), .val (.int (1 : Int32)), .val .null, .val (.int (0 : Int32)), .val (.int (0 : Int32))]) rfl ?_
                refine X28.aload i7_348 rfl rfl ?_
                refine X28.aload i7_350 rfl rfl ?_
                have E53 := (((A19.keep q23_0).ext E24).keep q28_0)
                refine X28.callV hl (argsL := [.null]) (a := a19) i7_352 (c_eqN l hw hEL hcs hcz X28.old a19 ) E53 (hw _ wd_61) (hw _ wd_62) (hw _ wd_64) (nfSel X28.zw (hw _ wd_64)) (hw _ wd_63) (hw _ wd_50) (hw _ wd_65) (by decide) sf_nil pd6 rfl rfl rfl (W := 0) rfl (by decide) (by decide) (k' := 16) rfl (n' := 38) rfl (by decide) (by decide) fun vm52 T52 h52 v52 X52 r52 Q52 => ?_
                obtain ⟨rfl, rfl⟩ := Q52
                show Go _ _ _ _ _ _ _ T52 355 #[.val (.int p0), .val (.int p1), .val (.int p2), .val (.int p3), .val (.int (p0 &&& (255 : Int32))), .val (.int (((p0.toUInt32 >>> ((8 : Int32) &&& 31).toUInt32).toInt32) &&& (255 : Int32))), .val (.int b0), .val (.int b1), .val (.int r_1), .val (.int r_2), .val (.int t2), .val (.ref r_3), .val (.ref r_5), .val (.ref k1), .val (.ref k2), .val (.ref a7), .val (.ref a13), .val (.ref a19), .val (.ref a24), .val (.int (1 : Int32)), .val .null, .val (.int (0 : Int32)), .val (.int (0 : Int32))] [(.int (0 : Int32))]
                refine X52.iload i7_355 rfl ?_
                refine X52.icN i7_357 (by decide) ?_
                refine X52.iconst i7_360 (z := (1 : Int32)) rfl ?_
                refine X52.goto i7_361 j361_4 ?_
                exact X52.ireturn i7_365 (t := .boolean) rfl (by decide) rfl (by decide) (by decide) rfl
            rcases hr1 with rfl | rfl | rfl <;> rcases hr2 with rfl | rfl | rfl
            · skip
              refine X28.iload i7_267 rfl ?_
              refine X28.iload i7_269 rfl ?_
              refine X28.icN i7_271 (by decide) ?_
              refine X28.iload i7_274 rfl ?_
              refine X28.iconst i7_276 (z := (1 : Int32)) rfl ?_
              refine X28.icY i7_277 j277_10 (by decide) ?_
              refine X28.iload i7_287 rfl ?_
              refine X28.iconst i7_289 (z := (2 : Int32)) rfl ?_
              refine X28.icY i7_290 j290_10 (by decide) ?_
              refine X28.iconst i7_300 (z := (1 : Int32)) rfl ?_
              refine X28.goto i7_301 j301_4 ?_
              exact J305 _ (Or.inl ⟨rfl, by rw [own_mk0, own_mk0]⟩)
            · skip
              refine X28.iload i7_267 rfl ?_
              refine X28.iload i7_269 rfl ?_
              refine X28.icY i7_271 j271_33 (by decide) ?_
              refine X28.iconst i7_304 (z := (0 : Int32)) rfl ?_
              exact J305 _ (Or.inr ⟨rfl, by rw [own_mk0, own_mk1]; simp⟩)
            · skip
              refine X28.iload i7_267 rfl ?_
              refine X28.iload i7_269 rfl ?_
              refine X28.icY i7_271 j271_33 (by decide) ?_
              refine X28.iconst i7_304 (z := (0 : Int32)) rfl ?_
              exact J305 _ (Or.inr ⟨rfl, by rw [own_mk0, own_mk2]; simp⟩)
            · skip
              refine X28.iload i7_267 rfl ?_
              refine X28.iload i7_269 rfl ?_
              refine X28.icY i7_271 j271_33 (by decide) ?_
              refine X28.iconst i7_304 (z := (0 : Int32)) rfl ?_
              exact J305 _ (Or.inr ⟨rfl, by rw [own_mk1, own_mk0]; simp⟩)
            · skip
              refine X28.iload i7_267 rfl ?_
              refine X28.iload i7_269 rfl ?_
              refine X28.icN i7_271 (by decide) ?_
              refine X28.iload i7_274 rfl ?_
              refine X28.iconst i7_276 (z := (1 : Int32)) rfl ?_
              refine X28.icN i7_277 (by decide) ?_
              refine X28.iload i7_280 rfl ?_
              refine X28.iload i7_282 rfl ?_
              by_cases h0 : ¬ (p0 &&& (255 : Int32)) = b0
              · skip
                refine X28.icY i7_284 j284_20 (XT.ii_ne_t h0) ?_
                refine X28.iconst i7_304 (z := (0 : Int32)) rfl ?_
                exact J305 _ (Or.inr ⟨rfl, by rw [own_mk1, own_mk1]; exact fun z => h0 (List.cons.inj z).1⟩)
              · skip
                have h0 := Classical.not_not.mp h0
                refine X28.icN i7_284 (XT.ii_ne_f h0) ?_
                refine X28.iload i7_287 rfl ?_
                refine X28.iconst i7_289 (z := (2 : Int32)) rfl ?_
                refine X28.icY i7_290 j290_10 (by decide) ?_
                refine X28.iconst i7_300 (z := (1 : Int32)) rfl ?_
                refine X28.goto i7_301 j301_4 ?_
                exact J305 _ (Or.inl ⟨rfl, by rw [own_mk1, own_mk1, h0]⟩)
            · skip
              refine X28.iload i7_267 rfl ?_
              refine X28.iload i7_269 rfl ?_
              refine X28.icY i7_271 j271_33 (by decide) ?_
              refine X28.iconst i7_304 (z := (0 : Int32)) rfl ?_
              exact J305 _ (Or.inr ⟨rfl, by rw [own_mk1, own_mk2]; simp⟩)
            · skip
              refine X28.iload i7_267 rfl ?_
              refine X28.iload i7_269 rfl ?_
              refine X28.icY i7_271 j271_33 (by decide) ?_
              refine X28.iconst i7_304 (z := (0 : Int32)) rfl ?_
              exact J305 _ (Or.inr ⟨rfl, by rw [own_mk2, own_mk0]; simp⟩)
            · skip
              refine X28.iload i7_267 rfl ?_
              refine X28.iload i7_269 rfl ?_
              refine X28.icY i7_271 j271_33 (by decide) ?_
              refine X28.iconst i7_304 (z := (0 : Int32)) rfl ?_
              exact J305 _ (Or.inr ⟨rfl, by rw [own_mk2, own_mk1]; simp⟩)
            · skip
              refine X28.iload i7_267 rfl ?_
              refine X28.iload i7_269 rfl ?_
              refine X28.icN i7_271 (by decide) ?_
              refine X28.iload i7_274 rfl ?_
              refine X28.iconst i7_276 (z := (1 : Int32)) rfl ?_
              refine X28.icN i7_277 (by decide) ?_
              refine X28.iload i7_280 rfl ?_
              refine X28.iload i7_282 rfl ?_
              by_cases h0 : ¬ (p0 &&& (255 : Int32)) = b0
              · skip
                refine X28.icY i7_284 j284_20 (XT.ii_ne_t h0) ?_
                refine X28.iconst i7_304 (z := (0 : Int32)) rfl ?_
                exact J305 _ (Or.inr ⟨rfl, by rw [own_mk2, own_mk2]; exact fun z => h0 (List.cons.inj z).1⟩)
              · skip
                have h0 := Classical.not_not.mp h0
                refine X28.icN i7_284 (XT.ii_ne_f h0) ?_
                refine X28.iload i7_287 rfl ?_
                refine X28.iconst i7_289 (z := (2 : Int32)) rfl ?_
                refine X28.icN i7_290 (by decide) ?_
                refine X28.iload i7_293 rfl ?_
                refine X28.iload i7_295 rfl ?_
                by_cases h1 : ¬ (((p0.toUInt32 >>> ((8 : Int32) &&& 31).toUInt32).toInt32) &&& (255 : Int32)) = b1
                · skip
                  refine X28.icY i7_297 j297_7 (XT.ii_ne_t h1) ?_
                  refine X28.iconst i7_304 (z := (0 : Int32)) rfl ?_
                  exact J305 _ (Or.inr ⟨rfl, by rw [own_mk2, own_mk2]; exact fun z => h1 (List.cons.inj (List.cons.inj z).2).1⟩)
                · skip
                  have h1 := Classical.not_not.mp h1
                  refine X28.icN i7_297 (XT.ii_ne_f h1) ?_
                  refine X28.iconst i7_300 (z := (1 : Int32)) rfl ?_
                  refine X28.goto i7_301 j301_4 ?_
                  exact J305 _ (Or.inl ⟨rfl, by rw [h0, h1]⟩)
          · skip
            refine X28.iload_n i7_219 rfl ?_
            refine X28.iconst i7_220 (z := (2 : Int32)) rfl ?_
            refine X28.iushr i7_221 (z := ((p3.toUInt32 >>> ((2 : Int32) &&& 31).toUInt32).toInt32)) rfl ?_
            refine X28.iconst i7_222 (z := (3 : Int32)) rfl ?_
            refine X28.iand i7_223 (z := (2 : Int32)) hwh ?_
            refine X28.istore i7_224 (Ls' := #[.val (.int p0), .val (.int p1), .val (.int p2), .val (.int p3), .val (.int (p0 &&& (255 : Int32))), .val (.int (((p0.toUInt32 >>> ((8 : Int32) &&& 31).toUInt32).toInt32) &&& (255 : Int32))), .val (.int b0), .val (.int b1), .val (.int r_1), .val (.int r_2), .val (.int t2), .val (.ref r_3), .val (.ref r_5), .val (.ref k1), .val (.ref k2), .val (.ref a7), .val (.ref a13), .val (.ref a19), .val (.ref a24), .val (.int (2 : Int32)), .unset, .unset, .unset]) rfl ?_
            refine X28.iload i7_226 rfl ?_
            refine X28.ifY i7_228 j228_10 (by decide) ?_
            refine X28.iload i7_238 rfl ?_
            refine X28.iconst i7_240 (z := (1 : Int32)) rfl ?_
            refine X28.icY i7_241 j241_9 (by decide) ?_
            refine X28.iload i7_250 rfl ?_
            refine X28.iconst i7_252 (z := (2 : Int32)) rfl ?_
            refine X28.icN i7_253 (by decide) ?_
            refine X28.aload i7_256 rfl rfl ?_
            refine X28.astore i7_258 rfl (Ls' := #[.val (.int p0), .val (.int p1), .val (.int p2), .val (.int p3), .val (.int (p0 &&& (255 : Int32))), .val (.int (((p0.toUInt32 >>> ((8 : Int32) &&& 31).toUInt32).toInt32) &&& (255 : Int32))), .val (.int b0), .val (.int b1), .val (.int r_1), .val (.int r_2), .val (.int t2), .val (.ref r_3), .val (.ref r_5), .val (.ref k1), .val (.ref k2), .val (.ref a7), .val (.ref a13), .val (.ref a19), .val (.ref a24), .val (.int (2 : Int32)), .val (.ref a7), .unset, .unset]) rfl ?_
            refine X28.goto i7_260 j260_7 ?_
            have J305 : ∀ (iq : Int32) (hiq : (iq = 1 ∧ (own_mk r_1 (p0 &&& (255 : Int32)) (((p0.toUInt32 >>> ((8 : Int32) &&& 31).toUInt32).toInt32) &&& (255 : Int32))) = (own_mk r_2 b0 b1)) ∨ (iq = 0 ∧ ¬ (own_mk r_1 (p0 &&& (255 : Int32)) (((p0.toUInt32 >>> ((8 : Int32) &&& 31).toUInt32).toInt32) &&& (255 : Int32))) = (own_mk r_2 b0 b1))), Go C room_1 false Z own_EL Z.heap.size (fun v h' => v = some (.int (1 : Int32))) T28 305 #[.val (.int p0), .val (.int p1), .val (.int p2), .val (.int p3), .val (.int (p0 &&& (255 : Int32))), .val (.int (((p0.toUInt32 >>> ((8 : Int32) &&& 31).toUInt32).toInt32) &&& (255 : Int32))), .val (.int b0), .val (.int b1), .val (.int r_1), .val (.int r_2), .val (.int t2), .val (.ref r_3), .val (.ref r_5), .val (.ref k1), .val (.ref k2), .val (.ref a7), .val (.ref a13), .val (.ref a19), .val (.ref a24), .val (.int (2 : Int32)), .val (.ref a7), .unset, .unset] [(.int iq)] := by
              intro iq hiq
              rcases hiq with ⟨rfl, he⟩ | ⟨rfl, he⟩
              · skip
                refine X28.istore i7_305 (Ls' := #[.val (.int p0), .val (.int p1), .val (.int p2), .val (.int p3), .val (.int (p0 &&& (255 : Int32))), .val (.int (((p0.toUInt32 >>> ((8 : Int32) &&& 31).toUInt32).toInt32) &&& (255 : Int32))), .val (.int b0), .val (.int b1), .val (.int r_1), .val (.int r_2), .val (.int t2), .val (.ref r_3), .val (.ref r_5), .val (.ref k1), .val (.ref k2), .val (.ref a7), .val (.ref a13), .val (.ref a19), .val (.ref a24), .val (.int (2 : Int32)), .val (.ref a7), .val (.int (1 : Int32)), .unset]) rfl ?_
                refine X28.iload i7_307 rfl ?_
                refine X28.ifY i7_309 j309_24 (by decide) ?_
                refine X28.iload i7_333 rfl ?_
                refine X28.iconst i7_335 (z := (3 : Int32)) rfl ?_
                refine X28.icY i7_336 j336_9 (by decide) ?_
                refine X28.iconst i7_345 (z := (0 : Int32)) rfl ?_
                refine X28.istore i7_346 (Ls' := #[.val (.int p0), .val (.int p1), .val (.int p2), .val (.int p3), .val (.int (p0 &&& (255 : Int32))), .val (.int (((p0.toUInt32 >>> ((8 : Int32) &&& 31).toUInt32).toInt32) &&& (255 : Int32))), .val (.int b0), .val (.int b1), .val (.int r_1), .val (.int r_2), .val (.int t2), .val (.ref r_3), .val (.ref r_5), .val (.ref k1), .val (.ref k2), .val (.ref a7), .val (.ref a13), .val (.ref a19), .val (.ref a24), .val (.int (2 : Int32)), .val (.ref a7), .val (.int (1 : Int32)), .val (.int (0 : Int32))]) rfl ?_
                refine X28.aload i7_348 rfl rfl ?_
                refine X28.aload i7_350 rfl rfl ?_
                have E54 := (((((((A7.keep q12_0).ext E13).keep q18_0).ext E19).keep q23_0).ext E24).keep q28_0)
                have E56 := (((A19.keep q23_0).ext E24).keep q28_0)
                refine X28.callV hl (argsL := [(.ref a7)]) (a := a19) i7_352 (c_eqP l hw hEL hcs hcz X28.old a19 a7 E54) E56 (hw _ wd_61) (hw _ wd_62) (hw _ wd_64) (nfSel X28.zw (hw _ wd_64)) (hw _ wd_63) (hw _ wd_50) (hw _ wd_65) (by decide) sf_nil pd6 rfl rfl rfl (W := 0) rfl (by decide) (by decide) (k' := 16) rfl (n' := 38) rfl (by decide) (by decide) fun vm55 T55 h55 v55 X55 r55 Q55 => ?_
                obtain ⟨rfl, rfl⟩ := Q55
                show Go _ _ _ _ _ _ _ T55 355 #[.val (.int p0), .val (.int p1), .val (.int p2), .val (.int p3), .val (.int (p0 &&& (255 : Int32))), .val (.int (((p0.toUInt32 >>> ((8 : Int32) &&& 31).toUInt32).toInt32) &&& (255 : Int32))), .val (.int b0), .val (.int b1), .val (.int r_1), .val (.int r_2), .val (.int t2), .val (.ref r_3), .val (.ref r_5), .val (.ref k1), .val (.ref k2), .val (.ref a7), .val (.ref a13), .val (.ref a19), .val (.ref a24), .val (.int (2 : Int32)), .val (.ref a7), .val (.int (1 : Int32)), .val (.int (0 : Int32))] [(.int (0 : Int32))]
                refine X55.iload i7_355 rfl ?_
                refine X55.icN i7_357 (by decide) ?_
                refine X55.iconst i7_360 (z := (1 : Int32)) rfl ?_
                refine X55.goto i7_361 j361_4 ?_
                exact X55.ireturn i7_365 (t := .boolean) rfl (by decide) rfl (by decide) (by decide) rfl
              · skip
                refine X28.istore i7_305 (Ls' := #[.val (.int p0), .val (.int p1), .val (.int p2), .val (.int p3), .val (.int (p0 &&& (255 : Int32))), .val (.int (((p0.toUInt32 >>> ((8 : Int32) &&& 31).toUInt32).toInt32) &&& (255 : Int32))), .val (.int b0), .val (.int b1), .val (.int r_1), .val (.int r_2), .val (.int t2), .val (.ref r_3), .val (.ref r_5), .val (.ref k1), .val (.ref k2), .val (.ref a7), .val (.ref a13), .val (.ref a19), .val (.ref a24), .val (.int (2 : Int32)), .val (.ref a7), .val (.int (0 : Int32)), .unset]) rfl ?_
                refine X28.iload i7_307 rfl ?_
                refine X28.ifY i7_309 j309_24 (by decide) ?_
                refine X28.iload i7_333 rfl ?_
                refine X28.iconst i7_335 (z := (3 : Int32)) rfl ?_
                refine X28.icY i7_336 j336_9 (by decide) ?_
                refine X28.iconst i7_345 (z := (0 : Int32)) rfl ?_
                refine X28.istore i7_346 (Ls' := #[.val (.int p0), .val (.int p1), .val (.int p2), .val (.int p3), .val (.int (p0 &&& (255 : Int32))), .val (.int (((p0.toUInt32 >>> ((8 : Int32) &&& 31).toUInt32).toInt32) &&& (255 : Int32))), .val (.int b0), .val (.int b1), .val (.int r_1), .val (.int r_2), .val (.int t2), .val (.ref r_3), .val (.ref r_5), .val (.ref k1), .val (.ref k2), .val (.ref a7), .val (.ref a13), .val (.ref a19), .val (.ref a24), .val (.int (2 : Int32)), .val (.ref a7), .val (.int (0 : Int32)), .val (.int (0 : Int32))]) rfl ?_
                refine X28.aload i7_348 rfl rfl ?_
                refine X28.aload i7_350 rfl rfl ?_
                have E57 := (((((((A7.keep q12_0).ext E13).keep q18_0).ext E19).keep q23_0).ext E24).keep q28_0)
                have E59 := (((A19.keep q23_0).ext E24).keep q28_0)
                refine X28.callV hl (argsL := [(.ref a7)]) (a := a19) i7_352 (c_eqP l hw hEL hcs hcz X28.old a19 a7 E57) E59 (hw _ wd_61) (hw _ wd_62) (hw _ wd_64) (nfSel X28.zw (hw _ wd_64)) (hw _ wd_63) (hw _ wd_50) (hw _ wd_65) (by decide) sf_nil pd6 rfl rfl rfl (W := 0) rfl (by decide) (by decide) (k' := 16) rfl (n' := 38) rfl (by decide) (by decide) fun vm58 T58 h58 v58 X58 r58 Q58 => ?_
                obtain ⟨rfl, rfl⟩ := Q58
                show Go _ _ _ _ _ _ _ T58 355 #[.val (.int p0), .val (.int p1), .val (.int p2), .val (.int p3), .val (.int (p0 &&& (255 : Int32))), .val (.int (((p0.toUInt32 >>> ((8 : Int32) &&& 31).toUInt32).toInt32) &&& (255 : Int32))), .val (.int b0), .val (.int b1), .val (.int r_1), .val (.int r_2), .val (.int t2), .val (.ref r_3), .val (.ref r_5), .val (.ref k1), .val (.ref k2), .val (.ref a7), .val (.ref a13), .val (.ref a19), .val (.ref a24), .val (.int (2 : Int32)), .val (.ref a7), .val (.int (0 : Int32)), .val (.int (0 : Int32))] [(.int (0 : Int32))]
                refine X58.iload i7_355 rfl ?_
                refine X58.icN i7_357 (by decide) ?_
                refine X58.iconst i7_360 (z := (1 : Int32)) rfl ?_
                refine X58.goto i7_361 j361_4 ?_
                exact X58.ireturn i7_365 (t := .boolean) rfl (by decide) rfl (by decide) (by decide) rfl
            rcases hr1 with rfl | rfl | rfl <;> rcases hr2 with rfl | rfl | rfl
            · skip
              refine X28.iload i7_267 rfl ?_
              refine X28.iload i7_269 rfl ?_
              refine X28.icN i7_271 (by decide) ?_
              refine X28.iload i7_274 rfl ?_
              refine X28.iconst i7_276 (z := (1 : Int32)) rfl ?_
              refine X28.icY i7_277 j277_10 (by decide) ?_
              refine X28.iload i7_287 rfl ?_
              refine X28.iconst i7_289 (z := (2 : Int32)) rfl ?_
              refine X28.icY i7_290 j290_10 (by decide) ?_
              refine X28.iconst i7_300 (z := (1 : Int32)) rfl ?_
              refine X28.goto i7_301 j301_4 ?_
              exact J305 _ (Or.inl ⟨rfl, by rw [own_mk0, own_mk0]⟩)
            · skip
              refine X28.iload i7_267 rfl ?_
              refine X28.iload i7_269 rfl ?_
              refine X28.icY i7_271 j271_33 (by decide) ?_
              refine X28.iconst i7_304 (z := (0 : Int32)) rfl ?_
              exact J305 _ (Or.inr ⟨rfl, by rw [own_mk0, own_mk1]; simp⟩)
            · skip
              refine X28.iload i7_267 rfl ?_
              refine X28.iload i7_269 rfl ?_
              refine X28.icY i7_271 j271_33 (by decide) ?_
              refine X28.iconst i7_304 (z := (0 : Int32)) rfl ?_
              exact J305 _ (Or.inr ⟨rfl, by rw [own_mk0, own_mk2]; simp⟩)
            · skip
              refine X28.iload i7_267 rfl ?_
              refine X28.iload i7_269 rfl ?_
              refine X28.icY i7_271 j271_33 (by decide) ?_
              refine X28.iconst i7_304 (z := (0 : Int32)) rfl ?_
              exact J305 _ (Or.inr ⟨rfl, by rw [own_mk1, own_mk0]; simp⟩)
            · skip
              refine X28.iload i7_267 rfl ?_
              refine X28.iload i7_269 rfl ?_
              refine X28.icN i7_271 (by decide) ?_
              refine X28.iload i7_274 rfl ?_
              refine X28.iconst i7_276 (z := (1 : Int32)) rfl ?_
              refine X28.icN i7_277 (by decide) ?_
              refine X28.iload i7_280 rfl ?_
              refine X28.iload i7_282 rfl ?_
              by_cases h0 : ¬ (p0 &&& (255 : Int32)) = b0
              · skip
                refine X28.icY i7_284 j284_20 (XT.ii_ne_t h0) ?_
                refine X28.iconst i7_304 (z := (0 : Int32)) rfl ?_
                exact J305 _ (Or.inr ⟨rfl, by rw [own_mk1, own_mk1]; exact fun z => h0 (List.cons.inj z).1⟩)
              · skip
                have h0 := Classical.not_not.mp h0
                refine X28.icN i7_284 (XT.ii_ne_f h0) ?_
                refine X28.iload i7_287 rfl ?_
                refine X28.iconst i7_289 (z := (2 : Int32)) rfl ?_
                refine X28.icY i7_290 j290_10 (by decide) ?_
                refine X28.iconst i7_300 (z := (1 : Int32)) rfl ?_
                refine X28.goto i7_301 j301_4 ?_
                exact J305 _ (Or.inl ⟨rfl, by rw [own_mk1, own_mk1, h0]⟩)
            · skip
              refine X28.iload i7_267 rfl ?_
              refine X28.iload i7_269 rfl ?_
              refine X28.icY i7_271 j271_33 (by decide) ?_
              refine X28.iconst i7_304 (z := (0 : Int32)) rfl ?_
              exact J305 _ (Or.inr ⟨rfl, by rw [own_mk1, own_mk2]; simp⟩)
            · skip
              refine X28.iload i7_267 rfl ?_
              refine X28.iload i7_269 rfl ?_
              refine X28.icY i7_271 j271_33 (by decide) ?_
              refine X28.iconst i7_304 (z := (0 : Int32)) rfl ?_
              exact J305 _ (Or.inr ⟨rfl, by rw [own_mk2, own_mk0]; simp⟩)
            · skip
              refine X28.iload i7_267 rfl ?_
              refine X28.iload i7_269 rfl ?_
              refine X28.icY i7_271 j271_33 (by decide) ?_
              refine X28.iconst i7_304 (z := (0 : Int32)) rfl ?_
              exact J305 _ (Or.inr ⟨rfl, by rw [own_mk2, own_mk1]; simp⟩)
            · skip
              refine X28.iload i7_267 rfl ?_
              refine X28.iload i7_269 rfl ?_
              refine X28.icN i7_271 (by decide) ?_
              refine X28.iload i7_274 rfl ?_
              refine X28.iconst i7_276 (z := (1 : Int32)) rfl ?_
              refine X28.icN i7_277 (by decide) ?_
              refine X28.iload i7_280 rfl ?_
              refine X28.iload i7_282 rfl ?_
              by_cases h0 : ¬ (p0 &&& (255 : Int32)) = b0
              · skip
                refine X28.icY i7_284 j284_20 (XT.ii_ne_t h0) ?_
                refine X28.iconst i7_304 (z := (0 : Int32)) rfl ?_
                exact J305 _ (Or.inr ⟨rfl, by rw [own_mk2, own_mk2]; exact fun z => h0 (List.cons.inj z).1⟩)
              · skip
                have h0 := Classical.not_not.mp h0
                refine X28.icN i7_284 (XT.ii_ne_f h0) ?_
                refine X28.iload i7_287 rfl ?_
                refine X28.iconst i7_289 (z := (2 : Int32)) rfl ?_
                refine X28.icN i7_290 (by decide) ?_
                refine X28.iload i7_293 rfl ?_
                refine X28.iload i7_295 rfl ?_
                by_cases h1 : ¬ (((p0.toUInt32 >>> ((8 : Int32) &&& 31).toUInt32).toInt32) &&& (255 : Int32)) = b1
                · skip
                  refine X28.icY i7_297 j297_7 (XT.ii_ne_t h1) ?_
                  refine X28.iconst i7_304 (z := (0 : Int32)) rfl ?_
                  exact J305 _ (Or.inr ⟨rfl, by rw [own_mk2, own_mk2]; exact fun z => h1 (List.cons.inj (List.cons.inj z).2).1⟩)
                · skip
                  have h1 := Classical.not_not.mp h1
                  refine X28.icN i7_297 (XT.ii_ne_f h1) ?_
                  refine X28.iconst i7_300 (z := (1 : Int32)) rfl ?_
                  refine X28.goto i7_301 j301_4 ?_
                  exact J305 _ (Or.inl ⟨rfl, by rw [h0, h1]⟩)
          · skip
            refine X28.iload_n i7_219 rfl ?_
            refine X28.iconst i7_220 (z := (2 : Int32)) rfl ?_
            refine X28.iushr i7_221 (z := ((p3.toUInt32 >>> ((2 : Int32) &&& 31).toUInt32).toInt32)) rfl ?_
            refine X28.iconst i7_222 (z := (3 : Int32)) rfl ?_
            refine X28.iand i7_223 (z := (3 : Int32)) hwh ?_
            refine X28.istore i7_224 (Ls' := #[.val (.int p0), .val (.int p1), .val (.int p2), .val (.int p3), .val (.int (p0 &&& (255 : Int32))), .val (.int (((p0.toUInt32 >>> ((8 : Int32) &&& 31).toUInt32).toInt32) &&& (255 : Int32))), .val (.int b0), .val (.int b1), .val (.int r_1), .val (.int r_2), .val (.int t2), .val (.ref r_3), .val (.ref r_5), .val (.ref k1), .val (.ref k2), .val (.ref a7), .val (.ref a13), .val (.ref a19), .val (.ref a24), .val (.int (3 : Int32)), .unset, .unset, .unset]) rfl ?_
            refine X28.iload i7_226 rfl ?_
            refine X28.ifY i7_228 j228_10 (by decide) ?_
            refine X28.iload i7_238 rfl ?_
            refine X28.iconst i7_240 (z := (1 : Int32)) rfl ?_
            refine X28.icY i7_241 j241_9 (by decide) ?_
            refine X28.iload i7_250 rfl ?_
            refine X28.iconst i7_252 (z := (2 : Int32)) rfl ?_
            refine X28.icY i7_253 j253_10 (by decide) ?_
            refine X28.aload i7_263 rfl rfl ?_
            refine X28.astore i7_265 rfl (Ls' := #[.val (.int p0), .val (.int p1), .val (.int p2), .val (.int p3), .val (.int (p0 &&& (255 : Int32))), .val (.int (((p0.toUInt32 >>> ((8 : Int32) &&& 31).toUInt32).toInt32) &&& (255 : Int32))), .val (.int b0), .val (.int b1), .val (.int r_1), .val (.int r_2), .val (.int t2), .val (.ref r_3), .val (.ref r_5), .val (.ref k1), .val (.ref k2), .val (.ref a7), .val (.ref a13), .val (.ref a19), .val (.ref a24), .val (.int (3 : Int32)), .val (.ref a19), .unset, .unset]) rfl ?_
            have J305 : ∀ (iq : Int32) (hiq : (iq = 1 ∧ (own_mk r_1 (p0 &&& (255 : Int32)) (((p0.toUInt32 >>> ((8 : Int32) &&& 31).toUInt32).toInt32) &&& (255 : Int32))) = (own_mk r_2 b0 b1)) ∨ (iq = 0 ∧ ¬ (own_mk r_1 (p0 &&& (255 : Int32)) (((p0.toUInt32 >>> ((8 : Int32) &&& 31).toUInt32).toInt32) &&& (255 : Int32))) = (own_mk r_2 b0 b1))), Go C room_1 false Z own_EL Z.heap.size (fun v h' => v = some (.int (1 : Int32))) T28 305 #[.val (.int p0), .val (.int p1), .val (.int p2), .val (.int p3), .val (.int (p0 &&& (255 : Int32))), .val (.int (((p0.toUInt32 >>> ((8 : Int32) &&& 31).toUInt32).toInt32) &&& (255 : Int32))), .val (.int b0), .val (.int b1), .val (.int r_1), .val (.int r_2), .val (.int t2), .val (.ref r_3), .val (.ref r_5), .val (.ref k1), .val (.ref k2), .val (.ref a7), .val (.ref a13), .val (.ref a19), .val (.ref a24), .val (.int (3 : Int32)), .val (.ref a19), .unset, .unset] [(.int iq)] := by
              intro iq hiq
              rcases hiq with ⟨rfl, he⟩ | ⟨rfl, he⟩
              · skip
                refine X28.istore i7_305 (Ls' := #[.val (.int p0), .val (.int p1), .val (.int p2), .val (.int p3), .val (.int (p0 &&& (255 : Int32))), .val (.int (((p0.toUInt32 >>> ((8 : Int32) &&& 31).toUInt32).toInt32) &&& (255 : Int32))), .val (.int b0), .val (.int b1), .val (.int r_1), .val (.int r_2), .val (.int t2), .val (.ref r_3), .val (.ref r_5), .val (.ref k1), .val (.ref k2), .val (.ref a7), .val (.ref a13), .val (.ref a19), .val (.ref a24), .val (.int (3 : Int32)), .val (.ref a19), .val (.int (1 : Int32)), .unset]) rfl ?_
                refine X28.iload i7_307 rfl ?_
                refine X28.ifY i7_309 j309_24 (by decide) ?_
                refine X28.iload i7_333 rfl ?_
                refine X28.iconst i7_335 (z := (3 : Int32)) rfl ?_
                refine X28.icN i7_336 (by decide) ?_
                refine X28.iconst i7_339 (z := (1 : Int32)) rfl ?_
                refine X28.istore i7_340 (Ls' := #[.val (.int p0), .val (.int p1), .val (.int p2), .val (.int p3), .val (.int (p0 &&& (255 : Int32))), .val (.int (((p0.toUInt32 >>> ((8 : Int32) &&& 31).toUInt32).toInt32) &&& (255 : Int32))), .val (.int b0), .val (.int b1), .val (.int r_1), .val (.int r_2), .val (.int t2), .val (.ref r_3), .val (.ref r_5), .val (.ref k1), .val (.ref k2), .val (.ref a7), .val (.ref a13), .val (.ref a19), .val (.ref a24), .val (.int (3 : Int32)), .val (.ref a19), .val (.int (1 : Int32)), .val (.int (1 : Int32))]) rfl ?_
                refine X28.goto i7_342 j342_6 ?_
                refine X28.aload i7_348 rfl rfl ?_
                refine X28.aload i7_350 rfl rfl ?_
                have F60 := ((q23_1.ext E24).keep q28_0 (ninS (Nat.ne_of_lt (Nat.lt_of_lt_of_le (q23_1).lt (Nat.le_of_eq z24))) nin0))
                have F61 := ((q23_2.ext E24).keep q28_0 (ninS (Nat.ne_of_lt (Nat.lt_of_lt_of_le (q23_1).lt (Nat.le_of_eq z24))) nin0))
                have S62 := (((((((((q3_2.ext q5_0).ext E7).keep q12_0 (ninS (Nat.ne_of_lt (Nat.lt_of_lt_of_le (Nat.lt_of_lt_of_le (q3_2).lt q5_0.1) (Nat.le_of_eq z7))) nin0) (ninS (Nat.ne_of_lt (Nat.lt_of_lt_of_le (Nat.lt_of_lt_of_le (q3_2).ltT q5_0.1) (Nat.le_of_eq z7))) nin0)).ext E13).keep q18_0 (ninS (Nat.ne_of_lt (Nat.lt_of_lt_of_le (Nat.lt_of_lt_of_le (Nat.lt_of_lt_of_le (Nat.lt_of_lt_of_le (q3_2).lt q5_0.1) E7.1) q12_0.1) (Nat.le_of_eq z13))) nin0) (ninS (Nat.ne_of_lt (Nat.lt_of_lt_of_le (Nat.lt_of_lt_of_le (Nat.lt_of_lt_of_le (Nat.lt_of_lt_of_le (q3_2).ltT q5_0.1) E7.1) q12_0.1) (Nat.le_of_eq z13))) nin0)).ext E19).keep q23_0 (ninS (Nat.ne_of_lt (Nat.lt_of_lt_of_le (Nat.lt_of_lt_of_le (Nat.lt_of_lt_of_le (Nat.lt_of_lt_of_le (Nat.lt_of_lt_of_le (Nat.lt_of_lt_of_le (q3_2).lt q5_0.1) E7.1) q12_0.1) E13.1) q18_0.1) (Nat.le_of_eq z19))) nin0) (ninS (Nat.ne_of_lt (Nat.lt_of_lt_of_le (Nat.lt_of_lt_of_le (Nat.lt_of_lt_of_le (Nat.lt_of_lt_of_le (Nat.lt_of_lt_of_le (Nat.lt_of_lt_of_le (q3_2).ltT q5_0.1) E7.1) q12_0.1) E13.1) q18_0.1) (Nat.le_of_eq z19))) nin0)).ext E24).keep q28_0 (ninS (Nat.ne_of_lt (Nat.lt_of_lt_of_le (Nat.lt_of_lt_of_le (Nat.lt_of_lt_of_le (Nat.lt_of_lt_of_le (Nat.lt_of_lt_of_le (Nat.lt_of_lt_of_le (Nat.lt_of_lt_of_le (Nat.lt_of_lt_of_le (q3_2).lt q5_0.1) E7.1) q12_0.1) E13.1) q18_0.1) E19.1) q23_0.1) (Nat.le_of_eq z24))) nin0) (ninS (Nat.ne_of_lt (Nat.lt_of_lt_of_le (Nat.lt_of_lt_of_le (Nat.lt_of_lt_of_le (Nat.lt_of_lt_of_le (Nat.lt_of_lt_of_le (Nat.lt_of_lt_of_le (Nat.lt_of_lt_of_le (Nat.lt_of_lt_of_le (q3_2).ltT q5_0.1) E7.1) q12_0.1) E13.1) q18_0.1) E19.1) q23_0.1) (Nat.le_of_eq z24))) nin0))
                have E63 := (((A19.keep q23_0).ext E24).keep q28_0)
                refine X28.callV hl (argsL := [(.ref a19)]) (a := a19) i7_352 (c_eqD l hw hEL hcs hcz X28.old a19 a19 r_3 t_3 kb_3 (own_mk r_1 (p0 &&& (255 : Int32)) (((p0.toUInt32 >>> ((8 : Int32) &&& 31).toUInt32).toInt32) &&& (255 : Int32))) p1 r_3 t_3 kb_3 (own_mk r_1 (p0 &&& (255 : Int32)) (((p0.toUInt32 >>> ((8 : Int32) &&& 31).toUInt32).toInt32) &&& (255 : Int32))) p1 F60 F61 S62 E63 F60 F61 S62 (own_mklen _ _ _) (own_mklen _ _ _)) E63 (hw _ wd_61) (hw _ wd_62) (hw _ wd_64) (nfSel X28.zw (hw _ wd_64)) (hw _ wd_63) (hw _ wd_50) (hw _ wd_65) (by decide) sf_nil pd6 rfl rfl rfl (W := 0) rfl (by decide) (by decide) (k' := 16) rfl (n' := 38) rfl (by decide) (by decide) fun vm64 T64 h64 v64 X64 r64 Q64 => ?_
                obtain ⟨r_64, rfl, rfl, q64_1⟩ := Q64
                show Go _ _ _ _ _ _ _ T64 355 #[.val (.int p0), .val (.int p1), .val (.int p2), .val (.int p3), .val (.int (p0 &&& (255 : Int32))), .val (.int (((p0.toUInt32 >>> ((8 : Int32) &&& 31).toUInt32).toInt32) &&& (255 : Int32))), .val (.int b0), .val (.int b1), .val (.int r_1), .val (.int r_2), .val (.int t2), .val (.ref r_3), .val (.ref r_5), .val (.ref k1), .val (.ref k2), .val (.ref a7), .val (.ref a13), .val (.ref a19), .val (.ref a24), .val (.int (3 : Int32)), .val (.ref a19), .val (.int (1 : Int32)), .val (.int (1 : Int32))] [(.int r_64)]
                rcases q64_1 with ⟨rfl, hm1, hm2⟩ | ⟨rfl, hm⟩
                · skip
                  refine X64.iload i7_355 rfl ?_
                  refine X64.icN i7_357 (by decide) ?_
                  refine X64.iconst i7_360 (z := (1 : Int32)) rfl ?_
                  refine X64.goto i7_361 j361_4 ?_
                  exact X64.ireturn i7_365 (t := .boolean) rfl (by decide) rfl (by decide) (by decide) rfl
                · skip
                  exact absurd ⟨rfl, rfl⟩ hm
              · skip
                refine X28.istore i7_305 (Ls' := #[.val (.int p0), .val (.int p1), .val (.int p2), .val (.int p3), .val (.int (p0 &&& (255 : Int32))), .val (.int (((p0.toUInt32 >>> ((8 : Int32) &&& 31).toUInt32).toInt32) &&& (255 : Int32))), .val (.int b0), .val (.int b1), .val (.int r_1), .val (.int r_2), .val (.int t2), .val (.ref r_3), .val (.ref r_5), .val (.ref k1), .val (.ref k2), .val (.ref a7), .val (.ref a13), .val (.ref a19), .val (.ref a24), .val (.int (3 : Int32)), .val (.ref a19), .val (.int (0 : Int32)), .unset]) rfl ?_
                refine X28.iload i7_307 rfl ?_
                refine X28.ifY i7_309 j309_24 (by decide) ?_
                refine X28.iload i7_333 rfl ?_
                refine X28.iconst i7_335 (z := (3 : Int32)) rfl ?_
                refine X28.icN i7_336 (by decide) ?_
                refine X28.iconst i7_339 (z := (1 : Int32)) rfl ?_
                refine X28.istore i7_340 (Ls' := #[.val (.int p0), .val (.int p1), .val (.int p2), .val (.int p3), .val (.int (p0 &&& (255 : Int32))), .val (.int (((p0.toUInt32 >>> ((8 : Int32) &&& 31).toUInt32).toInt32) &&& (255 : Int32))), .val (.int b0), .val (.int b1), .val (.int r_1), .val (.int r_2), .val (.int t2), .val (.ref r_3), .val (.ref r_5), .val (.ref k1), .val (.ref k2), .val (.ref a7), .val (.ref a13), .val (.ref a19), .val (.ref a24), .val (.int (3 : Int32)), .val (.ref a19), .val (.int (0 : Int32)), .val (.int (1 : Int32))]) rfl ?_
                refine X28.goto i7_342 j342_6 ?_
                refine X28.aload i7_348 rfl rfl ?_
                refine X28.aload i7_350 rfl rfl ?_
                have F65 := ((q23_1.ext E24).keep q28_0 (ninS (Nat.ne_of_lt (Nat.lt_of_lt_of_le (q23_1).lt (Nat.le_of_eq z24))) nin0))
                have F66 := ((q23_2.ext E24).keep q28_0 (ninS (Nat.ne_of_lt (Nat.lt_of_lt_of_le (q23_1).lt (Nat.le_of_eq z24))) nin0))
                have S67 := (((((((((q3_2.ext q5_0).ext E7).keep q12_0 (ninS (Nat.ne_of_lt (Nat.lt_of_lt_of_le (Nat.lt_of_lt_of_le (q3_2).lt q5_0.1) (Nat.le_of_eq z7))) nin0) (ninS (Nat.ne_of_lt (Nat.lt_of_lt_of_le (Nat.lt_of_lt_of_le (q3_2).ltT q5_0.1) (Nat.le_of_eq z7))) nin0)).ext E13).keep q18_0 (ninS (Nat.ne_of_lt (Nat.lt_of_lt_of_le (Nat.lt_of_lt_of_le (Nat.lt_of_lt_of_le (Nat.lt_of_lt_of_le (q3_2).lt q5_0.1) E7.1) q12_0.1) (Nat.le_of_eq z13))) nin0) (ninS (Nat.ne_of_lt (Nat.lt_of_lt_of_le (Nat.lt_of_lt_of_le (Nat.lt_of_lt_of_le (Nat.lt_of_lt_of_le (q3_2).ltT q5_0.1) E7.1) q12_0.1) (Nat.le_of_eq z13))) nin0)).ext E19).keep q23_0 (ninS (Nat.ne_of_lt (Nat.lt_of_lt_of_le (Nat.lt_of_lt_of_le (Nat.lt_of_lt_of_le (Nat.lt_of_lt_of_le (Nat.lt_of_lt_of_le (Nat.lt_of_lt_of_le (q3_2).lt q5_0.1) E7.1) q12_0.1) E13.1) q18_0.1) (Nat.le_of_eq z19))) nin0) (ninS (Nat.ne_of_lt (Nat.lt_of_lt_of_le (Nat.lt_of_lt_of_le (Nat.lt_of_lt_of_le (Nat.lt_of_lt_of_le (Nat.lt_of_lt_of_le (Nat.lt_of_lt_of_le (q3_2).ltT q5_0.1) E7.1) q12_0.1) E13.1) q18_0.1) (Nat.le_of_eq z19))) nin0)).ext E24).keep q28_0 (ninS (Nat.ne_of_lt (Nat.lt_of_lt_of_le (Nat.lt_of_lt_of_le (Nat.lt_of_lt_of_le (Nat.lt_of_lt_of_le (Nat.lt_of_lt_of_le (Nat.lt_of_lt_of_le (Nat.lt_of_lt_of_le (Nat.lt_of_lt_of_le (q3_2).lt q5_0.1) E7.1) q12_0.1) E13.1) q18_0.1) E19.1) q23_0.1) (Nat.le_of_eq z24))) nin0) (ninS (Nat.ne_of_lt (Nat.lt_of_lt_of_le (Nat.lt_of_lt_of_le (Nat.lt_of_lt_of_le (Nat.lt_of_lt_of_le (Nat.lt_of_lt_of_le (Nat.lt_of_lt_of_le (Nat.lt_of_lt_of_le (Nat.lt_of_lt_of_le (q3_2).ltT q5_0.1) E7.1) q12_0.1) E13.1) q18_0.1) E19.1) q23_0.1) (Nat.le_of_eq z24))) nin0))
                have E68 := (((A19.keep q23_0).ext E24).keep q28_0)
                refine X28.callV hl (argsL := [(.ref a19)]) (a := a19) i7_352 (c_eqD l hw hEL hcs hcz X28.old a19 a19 r_3 t_3 kb_3 (own_mk r_1 (p0 &&& (255 : Int32)) (((p0.toUInt32 >>> ((8 : Int32) &&& 31).toUInt32).toInt32) &&& (255 : Int32))) p1 r_3 t_3 kb_3 (own_mk r_1 (p0 &&& (255 : Int32)) (((p0.toUInt32 >>> ((8 : Int32) &&& 31).toUInt32).toInt32) &&& (255 : Int32))) p1 F65 F66 S67 E68 F65 F66 S67 (own_mklen _ _ _) (own_mklen _ _ _)) E68 (hw _ wd_61) (hw _ wd_62) (hw _ wd_64) (nfSel X28.zw (hw _ wd_64)) (hw _ wd_63) (hw _ wd_50) (hw _ wd_65) (by decide) sf_nil pd6 rfl rfl rfl (W := 0) rfl (by decide) (by decide) (k' := 16) rfl (n' := 38) rfl (by decide) (by decide) fun vm69 T69 h69 v69 X69 r69 Q69 => ?_
                obtain ⟨r_69, rfl, rfl, q69_1⟩ := Q69
                show Go _ _ _ _ _ _ _ T69 355 #[.val (.int p0), .val (.int p1), .val (.int p2), .val (.int p3), .val (.int (p0 &&& (255 : Int32))), .val (.int (((p0.toUInt32 >>> ((8 : Int32) &&& 31).toUInt32).toInt32) &&& (255 : Int32))), .val (.int b0), .val (.int b1), .val (.int r_1), .val (.int r_2), .val (.int t2), .val (.ref r_3), .val (.ref r_5), .val (.ref k1), .val (.ref k2), .val (.ref a7), .val (.ref a13), .val (.ref a19), .val (.ref a24), .val (.int (3 : Int32)), .val (.ref a19), .val (.int (0 : Int32)), .val (.int (1 : Int32))] [(.int r_69)]
                rcases q69_1 with ⟨rfl, hm1, hm2⟩ | ⟨rfl, hm⟩
                · skip
                  refine X69.iload i7_355 rfl ?_
                  refine X69.icN i7_357 (by decide) ?_
                  refine X69.iconst i7_360 (z := (1 : Int32)) rfl ?_
                  refine X69.goto i7_361 j361_4 ?_
                  exact X69.ireturn i7_365 (t := .boolean) rfl (by decide) rfl (by decide) (by decide) rfl
                · skip
                  exact absurd ⟨rfl, rfl⟩ hm
            rcases hr1 with rfl | rfl | rfl <;> rcases hr2 with rfl | rfl | rfl
            · skip
              refine X28.iload i7_267 rfl ?_
              refine X28.iload i7_269 rfl ?_
              refine X28.icN i7_271 (by decide) ?_
              refine X28.iload i7_274 rfl ?_
              refine X28.iconst i7_276 (z := (1 : Int32)) rfl ?_
              refine X28.icY i7_277 j277_10 (by decide) ?_
              refine X28.iload i7_287 rfl ?_
              refine X28.iconst i7_289 (z := (2 : Int32)) rfl ?_
              refine X28.icY i7_290 j290_10 (by decide) ?_
              refine X28.iconst i7_300 (z := (1 : Int32)) rfl ?_
              refine X28.goto i7_301 j301_4 ?_
              exact J305 _ (Or.inl ⟨rfl, by rw [own_mk0, own_mk0]⟩)
            · skip
              refine X28.iload i7_267 rfl ?_
              refine X28.iload i7_269 rfl ?_
              refine X28.icY i7_271 j271_33 (by decide) ?_
              refine X28.iconst i7_304 (z := (0 : Int32)) rfl ?_
              exact J305 _ (Or.inr ⟨rfl, by rw [own_mk0, own_mk1]; simp⟩)
            · skip
              refine X28.iload i7_267 rfl ?_
              refine X28.iload i7_269 rfl ?_
              refine X28.icY i7_271 j271_33 (by decide) ?_
              refine X28.iconst i7_304 (z := (0 : Int32)) rfl ?_
              exact J305 _ (Or.inr ⟨rfl, by rw [own_mk0, own_mk2]; simp⟩)
            · skip
              refine X28.iload i7_267 rfl ?_
              refine X28.iload i7_269 rfl ?_
              refine X28.icY i7_271 j271_33 (by decide) ?_
              refine X28.iconst i7_304 (z := (0 : Int32)) rfl ?_
              exact J305 _ (Or.inr ⟨rfl, by rw [own_mk1, own_mk0]; simp⟩)
            · skip
              refine X28.iload i7_267 rfl ?_
              refine X28.iload i7_269 rfl ?_
              refine X28.icN i7_271 (by decide) ?_
              refine X28.iload i7_274 rfl ?_
              refine X28.iconst i7_276 (z := (1 : Int32)) rfl ?_
              refine X28.icN i7_277 (by decide) ?_
              refine X28.iload i7_280 rfl ?_
              refine X28.iload i7_282 rfl ?_
              by_cases h0 : ¬ (p0 &&& (255 : Int32)) = b0
              · skip
                refine X28.icY i7_284 j284_20 (XT.ii_ne_t h0) ?_
                refine X28.iconst i7_304 (z := (0 : Int32)) rfl ?_
                exact J305 _ (Or.inr ⟨rfl, by rw [own_mk1, own_mk1]; exact fun z => h0 (List.cons.inj z).1⟩)
              · skip
                have h0 := Classical.not_not.mp h0
                refine X28.icN i7_284 (XT.ii_ne_f h0) ?_
                refine X28.iload i7_287 rfl ?_
                refine X28.iconst i7_289 (z := (2 : Int32)) rfl ?_
                refine X28.icY i7_290 j290_10 (by decide) ?_
                refine X28.iconst i7_300 (z := (1 : Int32)) rfl ?_
                refine X28.goto i7_301 j301_4 ?_
                exact J305 _ (Or.inl ⟨rfl, by rw [own_mk1, own_mk1, h0]⟩)
            · skip
              refine X28.iload i7_267 rfl ?_
              refine X28.iload i7_269 rfl ?_
              refine X28.icY i7_271 j271_33 (by decide) ?_
              refine X28.iconst i7_304 (z := (0 : Int32)) rfl ?_
              exact J305 _ (Or.inr ⟨rfl, by rw [own_mk1, own_mk2]; simp⟩)
            · skip
              refine X28.iload i7_267 rfl ?_
              refine X28.iload i7_269 rfl ?_
              refine X28.icY i7_271 j271_33 (by decide) ?_
              refine X28.iconst i7_304 (z := (0 : Int32)) rfl ?_
              exact J305 _ (Or.inr ⟨rfl, by rw [own_mk2, own_mk0]; simp⟩)
            · skip
              refine X28.iload i7_267 rfl ?_
              refine X28.iload i7_269 rfl ?_
              refine X28.icY i7_271 j271_33 (by decide) ?_
              refine X28.iconst i7_304 (z := (0 : Int32)) rfl ?_
              exact J305 _ (Or.inr ⟨rfl, by rw [own_mk2, own_mk1]; simp⟩)
            · skip
              refine X28.iload i7_267 rfl ?_
              refine X28.iload i7_269 rfl ?_
              refine X28.icN i7_271 (by decide) ?_
              refine X28.iload i7_274 rfl ?_
              refine X28.iconst i7_276 (z := (1 : Int32)) rfl ?_
              refine X28.icN i7_277 (by decide) ?_
              refine X28.iload i7_280 rfl ?_
              refine X28.iload i7_282 rfl ?_
              by_cases h0 : ¬ (p0 &&& (255 : Int32)) = b0
              · skip
                refine X28.icY i7_284 j284_20 (XT.ii_ne_t h0) ?_
                refine X28.iconst i7_304 (z := (0 : Int32)) rfl ?_
                exact J305 _ (Or.inr ⟨rfl, by rw [own_mk2, own_mk2]; exact fun z => h0 (List.cons.inj z).1⟩)
              · skip
                have h0 := Classical.not_not.mp h0
                refine X28.icN i7_284 (XT.ii_ne_f h0) ?_
                refine X28.iload i7_287 rfl ?_
                refine X28.iconst i7_289 (z := (2 : Int32)) rfl ?_
                refine X28.icN i7_290 (by decide) ?_
                refine X28.iload i7_293 rfl ?_
                refine X28.iload i7_295 rfl ?_
                by_cases h1 : ¬ (((p0.toUInt32 >>> ((8 : Int32) &&& 31).toUInt32).toInt32) &&& (255 : Int32)) = b1
                · skip
                  refine X28.icY i7_297 j297_7 (XT.ii_ne_t h1) ?_
                  refine X28.iconst i7_304 (z := (0 : Int32)) rfl ?_
                  exact J305 _ (Or.inr ⟨rfl, by rw [own_mk2, own_mk2]; exact fun z => h1 (List.cons.inj (List.cons.inj z).2).1⟩)
                · skip
                  have h1 := Classical.not_not.mp h1
                  refine X28.icN i7_297 (XT.ii_ne_f h1) ?_
                  refine X28.iconst i7_300 (z := (1 : Int32)) rfl ?_
                  refine X28.goto i7_301 j301_4 ?_
                  exact J305 _ (Or.inl ⟨rfl, by rw [h0, h1]⟩)
        by_cases hc : (((p3.toUInt32 >>> ((9 : Int32) &&& 31).toUInt32).toInt32) &&& (1 : Int32)) = 0
        · skip
          refine X'.ifY i7_142 j142_9 (XT.i0_eq_t hc) ?_
          refine X'.getstatic i7_151 (hw _ wd_30) Via.refl (hgr.ext X'.ext0) fun T70 X70 => ?_
          exact J154 _ X70 _
        · skip
          refine X'.ifN i7_142 (XT.i0_eq_f hc) ?_
          refine X'.getstatic i7_145 (hw _ wd_91) Via.refl (hrf.ext X'.ext0) fun T71 X71 => ?_
          refine X71.goto i7_148 j148_6 ?_
          exact J154 _ X71 _
      by_cases hc : (((p3.toUInt32 >>> ((8 : Int32) &&& 31).toUInt32).toInt32) &&& (1 : Int32)) = 0
      · skip
        refine X5.ifY i7_122 j122_9 (XT.i0_eq_t hc) ?_
        refine X5.getstatic i7_131 (hw _ wd_30) Via.refl (hgr.ext X5.ext0) fun T72 X72 => ?_
        exact J134 _ X72 _
      · skip
        refine X5.ifN i7_122 (XT.i0_eq_f hc) ?_
        refine X5.getstatic i7_125 (hw _ wd_91) Via.refl (hrf.ext X5.ext0) fun T73 X73 => ?_
        refine X73.goto i7_128 j128_6 ?_
        exact J134 _ X73 _
    by_cases hc : (p3 &&& (1 : Int32)) = 0
    · skip
      refine X2.ifY i7_84 j84_7 (XT.i0_eq_t hc) ?_
      refine X2.iload_n i7_91 rfl ?_
      exact J92 _
    · skip
      refine X2.ifN i7_84 (XT.i0_eq_f hc) ?_
      refine X2.iload_n i7_87 rfl ?_
      refine X2.goto i7_88 j88_4 ?_
      exact J92 _
  by_cases hc : (p3 &&& (2 : Int32)) = 0
  · skip
    refine X.ifY i7_22 j22_14 (XT.i0_eq_t hc) ?_
    refine X.iload_n i7_36 rfl ?_
    refine X.bipush i7_37 (z := (16 : Int32)) rfl ?_
    refine X.iushr i7_39 (z := ((p0.toUInt32 >>> ((16 : Int32) &&& 31).toUInt32).toInt32)) rfl ?_
    refine X.sipush i7_40 (z := (255 : Int32)) rfl ?_
    refine X.iand i7_43 (z := (((p0.toUInt32 >>> ((16 : Int32) &&& 31).toUInt32).toInt32) &&& (255 : Int32))) rfl ?_
    refine X.i2c i7_44 (z := (((p0.toUInt32 >>> ((16 : Int32) &&& 31).toUInt32).toInt32) &&& (255 : Int32))) (i2c_mask _) ?_
    refine X.istore i7_45 (Ls' := #[.val (.int p0), .val (.int p1), .val (.int p2), .val (.int p3), .val (.int (p0 &&& (255 : Int32))), .val (.int (((p0.toUInt32 >>> ((8 : Int32) &&& 31).toUInt32).toInt32) &&& (255 : Int32))), .val (.int (((p0.toUInt32 >>> ((16 : Int32) &&& 31).toUInt32).toInt32) &&& (255 : Int32))), .unset, .unset, .unset, .unset, .unset, .unset, .unset, .unset, .unset, .unset, .unset, .unset, .unset, .unset, .unset, .unset]) rfl ?_
    refine X.iload_n i7_47 rfl ?_
    refine X.bipush i7_48 (z := (24 : Int32)) rfl ?_
    refine X.iushr i7_50 (z := ((p0.toUInt32 >>> ((24 : Int32) &&& 31).toUInt32).toInt32)) rfl ?_
    refine X.sipush i7_51 (z := (255 : Int32)) rfl ?_
    refine X.iand i7_54 (z := (((p0.toUInt32 >>> ((24 : Int32) &&& 31).toUInt32).toInt32) &&& (255 : Int32))) rfl ?_
    refine X.i2c i7_55 (z := (((p0.toUInt32 >>> ((24 : Int32) &&& 31).toUInt32).toInt32) &&& (255 : Int32))) (i2c_mask _) ?_
    refine X.istore i7_56 (Ls' := #[.val (.int p0), .val (.int p1), .val (.int p2), .val (.int p3), .val (.int (p0 &&& (255 : Int32))), .val (.int (((p0.toUInt32 >>> ((8 : Int32) &&& 31).toUInt32).toInt32) &&& (255 : Int32))), .val (.int (((p0.toUInt32 >>> ((16 : Int32) &&& 31).toUInt32).toInt32) &&& (255 : Int32))), .val (.int (((p0.toUInt32 >>> ((24 : Int32) &&& 31).toUInt32).toInt32) &&& (255 : Int32))), .unset, .unset, .unset, .unset, .unset, .unset, .unset, .unset, .unset, .unset, .unset, .unset, .unset, .unset, .unset]) rfl ?_
    exact J58 _ _ (own_and255 _) (own_and255 _)
  · skip
    refine X.ifN i7_22 (XT.i0_eq_f hc) ?_
    refine X.iload i7_25 rfl ?_
    refine X.istore i7_27 (Ls' := #[.val (.int p0), .val (.int p1), .val (.int p2), .val (.int p3), .val (.int (p0 &&& (255 : Int32))), .val (.int (((p0.toUInt32 >>> ((8 : Int32) &&& 31).toUInt32).toInt32) &&& (255 : Int32))), .val (.int (p0 &&& (255 : Int32))), .unset, .unset, .unset, .unset, .unset, .unset, .unset, .unset, .unset, .unset, .unset, .unset, .unset, .unset, .unset, .unset]) rfl ?_
    refine X.iload i7_29 rfl ?_
    refine X.istore i7_31 (Ls' := #[.val (.int p0), .val (.int p1), .val (.int p2), .val (.int p3), .val (.int (p0 &&& (255 : Int32))), .val (.int (((p0.toUInt32 >>> ((8 : Int32) &&& 31).toUInt32).toInt32) &&& (255 : Int32))), .val (.int (p0 &&& (255 : Int32))), .val (.int (((p0.toUInt32 >>> ((8 : Int32) &&& 31).toUInt32).toInt32) &&& (255 : Int32))), .unset, .unset, .unset, .unset, .unset, .unset, .unset, .unset, .unset, .unset, .unset, .unset, .unset, .unset, .unset]) rfl ?_
    refine X.goto i7_33 j33_25 ?_
    exact J58 _ _ (own_and255 _) (own_and255 _)
set_option maxRecDepth 65536 in
set_option maxHeartbeats 40000000 in
theorem comes_1 {Post : Tables → Env → Array Value → State → Outcome → State → Prop} (hpost : ∀ tb e args s v u, (limb_1_1.after args s (.returned v) u = true ∧ limb_1_2.after args s (.returned v) u = true ∧ True) → ReturnedEndW s (.returned v) u (Jvm.fieldLocs frame_1_writes args s ++ Jvm.arrayLocs frame_1_arrays args s ++ Jvm.staticLocs frame_1_statics s) 32 1152 → Post tb e args s (.returned v) u) :
    ArmFor flags0 classFile x code maxLocals ret World_1 tables_1 room_1 Calls_1 rest_1 Pre_1 Post := by
  intro l hfl _ _ p e ha hc hk s m args below hf hA hF happ hP
  obtain ⟨hcalls, hrest, hpre⟩ := hP
  obtain ⟨-, -, -, hnamed, -, -, -, hat⟩ := (Spec.applies_iff hf).mp happ
  obtain ⟨hg, hn⟩ := and_e (Cond.before_iff.mp (show (Jvm.Cond.and given_1 narrow_1).before args s = true from hpre))
  obtain ⟨hcnt, hg⟩ := and_e hg
  obtain ⟨ha0, hg⟩ := and_e hg
  obtain ⟨ha1, hg⟩ := and_e hg
  obtain ⟨ha2, hg⟩ := and_e hg
  obtain ⟨w0, w1, w2, w3, rfl⟩ : ∃ w0 w1 w2 w3 : Value, args = #[w0, w1, w2, w3] := by
    have hs : args.size = 4 := by simpa [Cond.value, given_1] using hcnt
    obtain ⟨L⟩ := args
    match L, hs with
    | [w0, w1, w2, w3], _ => exact ⟨w0, w1, w2, w3, rfl⟩
  have hw := fun d (hd : d ∈ tables_1) => atoms_spec (ws := Jvm.Cond.code x code maxLocals ret :: tables_1) hat d (List.mem_cons_of_mem _ hd)
  obtain ⟨hsets, hown0⟩ := atoms_of _ (rest_1_c_eq ▸ (show rest_1_c.before _ s = true from hrest))
  have hfit : Fit s := fun {y c} hc i hi => by
    obtain ⟨ha, rfl⟩ := Array.getElem?_eq_some_iff.mp hc
    have q := List.all_eq_true.mp ((Array.all_eq_true_iff_forall_mem.mp hF) _ (Array.getElem_mem ha)) i (List.mem_range.mpr hi)
    simpa [Array.getElem?_eq_getElem hi] using q
  obtain ⟨p0, e0⟩ := is_v ha0
  obtain rfl : w0 = (.int p0) := Option.some.inj e0
  obtain ⟨p1, e1⟩ := is_v ha1
  obtain rfl : w1 = (.int p1) := Option.some.inj e1
  obtain ⟨p2, e2⟩ := is_v ha2
  obtain rfl : w2 = (.int p2) := Option.some.inj e2
  obtain ⟨p3, e3⟩ := is_v hg
  obtain rfl : w3 = (.int p3) := Option.some.inj e3
  have n5 := not_v (Cond.before_iff.mp (hsets _ (List.mem_of_getElem? (i := 2) rfl)))
  obtain ⟨zc, ec⟩ := is_v (Cond.before_iff.mp (hsets _ (List.mem_of_getElem? (i := 1) rfl)))
  have hcs : Sta s s.heap "java/lang/String" "COMPACT_STRINGS" "Z" (.int zc) := Sta.start ec (Or.inl (hsets _ (List.mem_of_getElem? (i := 0) rfl)))
  have hcz : ¬ (zc = (0 : Int32)) := gotF (Cond.eq_ints ec (Term.int_eval (0))) n5
  obtain ⟨hn1, hn2⟩ := and_e hn
  obtain ⟨gr, egr⟩ := exa_v hn1
  obtain ⟨rf, erf⟩ := exa_v hn2
  have hrf : Sta s s.heap "com/example/tranche/tranche/Payout$Kind" "REFUND" "Lcom/example/tranche/tranche/Payout$Kind;" (.ref rf) := Sta.start erf (Or.inr ⟨(hw _ wd_31), (hw _ wd_92)⟩)
  have hgr : Sta s s.heap "com/example/tranche/tranche/Payout$Kind" "GRAB" "Lcom/example/tranche/tranche/Payout$Kind;" (.ref gr) := Sta.start egr (Or.inr ⟨(hw _ wd_31), (hw _ wd_32)⟩)
  have hEL : EW s (_ : Array Value) own_EL := (EW.cons (hw _ wd_22) lt0_a EW.nil)
  have hCH : CHv s own_EL s.vm s.heap := CHv.start hEL hcalls.1 (Cond.before_iff.mpr (not_i (nay (Cond.eq_ints ec (Term.int_eval (0))) hcz)) : Jvm.Lit.compactW.before _ s = true) (hw _ wd_23) (hw _ wd_9)
  obtain ⟨n, o, h1, h2, h3, _, L, rfl, ⟨rfl, N, -⟩, -, hq⟩ := own_law l hw hEL hcs hcz p0 p1 p2 p3 rf gr hrf hgr p e ha hc hk s m _ below hf ((Spec.applies_iff_loose hf).mp happ).1 ⟨rfl, State.Warmed39.refl s, rfl, hCH, fun _ z => nomatch z⟩ trivial
  refine ⟨n, _, h1, h2, h3, hpost _ _ _ _ _ _ ⟨Cond.after_iff.mpr rfl, Cond.after_iff.mpr (eq_i res_at (Term.int_eval (1)) rfl), trivial⟩ ⟨hq.1.1, hq.1.2.1, hq.1.2.2.1, (hq.1.2.2.2.sift fun y hy => Or.inr (N y hy)).mono (by decide) (by decide)⟩⟩
theorem main_1_1 : Claimed_1_1 := comes_1 fun _ _ _ _ _ _ h hF => ⟨h.1, hF⟩
theorem main_1_2 : Claimed_1_2 := comes_1 fun _ _ _ _ _ _ h hF => ⟨h.2.1, hF⟩
end Jvm.Pilot.@@N@@
namespace Jvm.Pilot.@@N@@
open Jvm Jvm.ClassFile Sem Op Lib Jvm.Free Jvm.Stand Jvm.Pilot.@@N@@.Jvm.D
/-! MADE BY PROGRAM (witnessworld.py) out of the Statement's table words and the real class files: 24 classes; the members and pool entries that the words name. The judged class is class 1, her method 2. -/
namespace start1
open Jvm.ClassFile
def u (s : String) : CpInfo := .utf8 (stringToUtf16 s)
/-- a pool by its gaps: so many unusable entries, then the entry; so many at the end -/
def gap : Nat → List CpInfo → List CpInfo
  | 0, r => r
  | n + 1, r => .unusable :: gap n r
def poolList (es : List (Nat × CpInfo)) (last : Nat) : List CpInfo := es.foldr (fun e r => gap e.1 (e.2 :: r)) (gap last [])
def pool (es : List (Nat × CpInfo)) (last : Nat) : Array CpInfo := ⟨poolList es last⟩
def fileOf (pool : Array CpInfo) (this : Nat) (attrs : Array Attribute := #[]) (ms : Array MethodInfo := #[]) (fl : Nat := 33) (sup : Nat := 0) (ifs : Array Nat := #[]) (fds : Array FieldInfo := #[]) : ClassFile where
  minorVersion := 0
  majorVersion := 65
  constantPool := pool
  accessFlags := fl
  thisClass := this
  superClass := sup
  interfaces := ifs
  fields := fds
  methods := ms
  attributes := attrs
def plain (name : String) (sup : Option ClassId) : Class where
  name := name
  kind := .ordinary
  loader := none
  accessFlags := 33
  super := sup
  interfaces := #[]
  cf := none
  fields := #[]
  methods := #[]
  instanceTypes := #[]
  staticTypes := #[]
  resolved := #[]
  callSites := []
  init := .initialized
  statics := none
  mirror := none

def pool0 : Array CpInfo := pool [(5, u "<init>"), (0, u "()V"), (1, .class_ 10), (1, u "java/lang/Object")] 113

def k0c0 : Code := { maxStack := 0, maxLocals := 1, code := object_method_1_code, exceptionTable := #[], attributes := #[] }
def k0m0 : Method := { name := "<init>", desc := "()V", sig := { parameters := [], returnType := none }, accessFlags := 1, code := some k0c0 }
/-- java/lang/Object -/
def k0 : Class := { plain "java/lang/Object" none with
  accessFlags := 33
  interfaces := #[]
  cf := some (fileOf pool0 8 #[] #[{ accessFlags := 1, nameIndex := 5, descriptorIndex := 6, attributes := #[] }] 33 0 #[] #[])
  fields := #[]
  methods := #[k0m0]
  instanceTypes := #[]
  staticTypes := #[]
  resolved := Array.replicate 124 none
  statics := none }

def pool1 : Array CpInfo := pool [(2, .class_ 4), (1, u "java/lang/Object"), (0, u "<init>"), (0, u "()V"), (0, .class_ 8), (0, u "java/lang/String"), (0, .methodref 7 10), (0, .nameAndType 5 11), (0, u "([C)V"), (0, .methodref 13 14), (0, .class_ 15), (0, .nameAndType 16 17), (0, u "java/lang/Math"), (0, u "min"), (0, u "(II)I"), (0, .methodref 19 20), (0, .class_ 21), (0, .nameAndType 22 23), (0, u "com/example/tranche/tranche/DeliveryEqualsPinLaw"), (0, u "mk"), (0, u "(ICC)Ljava/lang/String;"), (0, .fieldref 25 26), (0, .class_ 27), (0, .nameAndType 28 29), (0, u "com/example/tranche/tranche/Payout$Kind"), (0, u "REFUND"), (0, u "Lcom/example/tranche/tranche/Payout$Kind;"), (0, .fieldref 25 31), (0, .nameAndType 32 29), (0, u "GRAB"), (0, .class_ 34), (0, u "com/example/tranche/tranche/Payout"), (0, .methodref 33 36), (0, .nameAndType 5 37), (0, u "(Lcom/example/tranche/tranche/Payout$Kind;Ljava/lang/String;Ljava/lang/String;J)V"), (0, .class_ 39), (0, u "com/example/tranche/tranche/Delivery"), (0, .methodref 38 41), (0, .nameAndType 5 42), (0, u "(Ljava/lang/String;Lcom/example/tranche/tranche/Payout;I)V"), (0, .methodref 38 44), (0, .nameAndType 45 46), (0, u "equals"), (0, u "(Ljava/lang/Object;)Z"), (3, u "law"), (0, u "(IIII)Z")] 4

def k1m0 : Method := { name := "<init>", desc := "()V", sig := { parameters := [], returnType := none }, accessFlags := 1, code := none }
def k1c1 : Code := { maxStack := 6, maxLocals := 3, code := method_2_code, exceptionTable := #[], attributes := #[] }
def k1m1 : Method := { name := "mk", desc := "(ICC)Ljava/lang/String;", sig := { parameters := [.int, .char, .char], returnType := some (.object "java/lang/String") }, accessFlags := 10, code := some k1c1 }
def k1c2 : Code := { maxStack := 7, maxLocals := 23, code := code, exceptionTable := #[], attributes := #[] }
def k1m2 : Method := { name := "law", desc := "(IIII)Z", sig := { parameters := [.int, .int, .int, .int], returnType := some .boolean }, accessFlags := 9, code := some k1c2 }
/-- com/example/tranche/tranche/DeliveryEqualsPinLaw -/
def k1 : Class := { plain "com/example/tranche/tranche/DeliveryEqualsPinLaw" (some 0) with
  accessFlags := 49
  interfaces := #[]
  cf := some (fileOf pool1 19 #[] #[{ accessFlags := 1, nameIndex := 5, descriptorIndex := 6, attributes := #[] }, { accessFlags := 10, nameIndex := 22, descriptorIndex := 23, attributes := #[] }, { accessFlags := 9, nameIndex := 50, descriptorIndex := 51, attributes := #[] }] 49 2 #[] #[])
  fields := #[]
  methods := #[k1m0, k1m1, k1m2]
  instanceTypes := #[]
  staticTypes := #[]
  resolved := Array.replicate 56 none
  statics := none }

def pool2 : Array CpInfo := pool [(1, .class_ 2), (0, u "java/lang/Math"), (1, .class_ 6), (1, u "java/lang/Object"), (0, u "<init>"), (0, u "()V"), (89, .class_ 100), (1, u "java/lang/Math$RandomNumberGeneratorHolder"), (71, u "negativeZeroFloatBits"), (0, u "J"), (2, u "negativeZeroDoubleBits"), (24, u "min"), (43, u "$assertionsDisabled"), (0, u "Z"), (88, u "(II)I"), (2, u "twoToTheDoubleScaleDown"), (0, u "D"), (4, u "twoToTheDoubleScaleUp"), (9, u "E"), (3, u "PI"), (2, u "TAU"), (2, u "DEGREES_TO_RADIANS"), (0, u "RADIANS_TO_DEGREES")] 94

def k2m0 : Method := { name := "<init>", desc := "()V", sig := { parameters := [], returnType := none }, accessFlags := 2, code := none }
def k2c1 : Code := { maxStack := 2, maxLocals := 2, code := jdk_29_method_69_code, exceptionTable := #[], attributes := #[] }
def k2m1 : Method := { name := "min", desc := "(II)I", sig := { parameters := [.int, .int], returnType := some .int }, accessFlags := 9, code := some k2c1 }
/-- java/lang/Math -/
def k2 : Class := { plain "java/lang/Math" (some 0) with
  accessFlags := 49
  interfaces := #[]
  cf := some (fileOf pool2 1 #[.nestMembers #[98]] #[{ accessFlags := 2, nameIndex := 7, descriptorIndex := 8, attributes := #[] }, { accessFlags := 9, nameIndex := 201, descriptorIndex := 335, attributes := #[] }] 49 4 #[] #[{ accessFlags := 25, nameIndex := 354, descriptorIndex := 339, attributes := #[] }, { accessFlags := 25, nameIndex := 358, descriptorIndex := 339, attributes := #[] }, { accessFlags := 25, nameIndex := 361, descriptorIndex := 339, attributes := #[] }, { accessFlags := 26, nameIndex := 364, descriptorIndex := 339, attributes := #[] }, { accessFlags := 26, nameIndex := 365, descriptorIndex := 339, attributes := #[] }, { accessFlags := 26, nameIndex := 172, descriptorIndex := 173, attributes := #[] }, { accessFlags := 26, nameIndex := 176, descriptorIndex := 173, attributes := #[] }, { accessFlags := 8, nameIndex := 344, descriptorIndex := 339, attributes := #[] }, { accessFlags := 8, nameIndex := 338, descriptorIndex := 339, attributes := #[] }, { accessFlags := 4120, nameIndex := 245, descriptorIndex := 246, attributes := #[] }])
  fields := #[{ name := "E", type := .double, accessFlags := 25, slot := 0, constantValue := 0 }, { name := "PI", type := .double, accessFlags := 25, slot := 1, constantValue := 0 }, { name := "TAU", type := .double, accessFlags := 25, slot := 2, constantValue := 0 }, { name := "DEGREES_TO_RADIANS", type := .double, accessFlags := 26, slot := 3, constantValue := 0 }, { name := "RADIANS_TO_DEGREES", type := .double, accessFlags := 26, slot := 4, constantValue := 0 }, { name := "negativeZeroFloatBits", type := .long, accessFlags := 26, slot := 5, constantValue := 0 }, { name := "negativeZeroDoubleBits", type := .long, accessFlags := 26, slot := 6, constantValue := 0 }, { name := "twoToTheDoubleScaleUp", type := .double, accessFlags := 8, slot := 7, constantValue := 0 }, { name := "twoToTheDoubleScaleDown", type := .double, accessFlags := 8, slot := 8, constantValue := 0 }, { name := "$assertionsDisabled", type := .boolean, accessFlags := 4120, slot := 9, constantValue := 0 }]
  methods := #[k2m0, k2m1]
  instanceTypes := #[]
  staticTypes := #[.double, .double, .double, .double, .double, .long, .long, .double, .double, .boolean]
  resolved := Array.replicate 460 none
  statics := none }

def pool3 : Array CpInfo := pool [(1, .class_ 2), (0, u "java/io/Serializable"), (0, .class_ 4), (0, u "java/lang/Object")] 2

/-- java/io/Serializable -/
def k3 : Class := { plain "java/io/Serializable" (some 0) with
  accessFlags := 1537
  interfaces := #[]
  cf := some (fileOf pool3 1 #[] #[] 1537 3 #[] #[])
  fields := #[]
  methods := #[]
  instanceTypes := #[]
  staticTypes := #[]
  resolved := Array.replicate 7 none
  statics := none }

def pool4 : Array CpInfo := pool [(1, .class_ 2), (0, u "java/lang/Comparable"), (0, .class_ 4), (0, u "java/lang/Object")] 7

/-- java/lang/Comparable -/
def k4 : Class := { plain "java/lang/Comparable" (some 0) with
  accessFlags := 1537
  interfaces := #[]
  cf := some (fileOf pool4 1 #[] #[] 1537 3 #[] #[])
  fields := #[]
  methods := #[]
  instanceTypes := #[]
  staticTypes := #[]
  resolved := Array.replicate 12 none
  statics := none }

def pool5 : Array CpInfo := pool [(2, .class_ 4), (1, u "java/lang/CharSequence"), (42, .class_ 48), (0, u "java/lang/CharSequence$1CodePointIterator"), (10, .class_ 60), (0, u "java/lang/CharSequence$1CharIterator"), (5, .class_ 67), (0, u "java/lang/Object")] 63

/-- java/lang/CharSequence -/
def k5 : Class := { plain "java/lang/CharSequence" (some 0) with
  accessFlags := 1537
  interfaces := #[]
  cf := some (fileOf pool5 2 #[.nestMembers #[47, 59]] #[] 1537 66 #[] #[])
  fields := #[]
  methods := #[]
  instanceTypes := #[]
  staticTypes := #[]
  resolved := Array.replicate 131 none
  statics := none }

def pool6 : Array CpInfo := pool [(1, .class_ 2), (0, u "java/lang/constant/Constable"), (0, .class_ 4), (0, u "java/lang/Object")] 6

/-- java/lang/constant/Constable -/
def k6 : Class := { plain "java/lang/constant/Constable" (some 0) with
  accessFlags := 1537
  interfaces := #[]
  cf := some (fileOf pool6 1 #[] #[] 1537 3 #[] #[])
  fields := #[]
  methods := #[]
  instanceTypes := #[]
  staticTypes := #[]
  resolved := Array.replicate 11 none
  statics := none }

def pool7 : Array CpInfo := pool [(1, .class_ 2), (0, u "java/lang/constant/ConstantDesc"), (0, .class_ 4), (0, u "java/lang/Object")] 32

/-- java/lang/constant/ConstantDesc -/
def k7 : Class := { plain "java/lang/constant/ConstantDesc" (some 0) with
  accessFlags := 1537
  interfaces := #[]
  cf := some (fileOf pool7 1 #[] #[] 1537 3 #[] #[])
  fields := #[]
  methods := #[]
  instanceTypes := #[]
  staticTypes := #[]
  resolved := Array.replicate 37 none
  statics := none }

def pool8 : Array CpInfo := pool [(1, .methodref 2 3), (0, .class_ 4), (0, .nameAndType 5 6), (0, u "java/lang/Object"), (0, u "<init>"), (0, u "()V"), (0, .string 8), (0, u ""), (0, .fieldref 10 11), (0, .class_ 12), (0, .nameAndType 13 14), (0, u "java/lang/String"), (0, u "value"), (0, u "[B"), (0, .fieldref 10 16), (0, .nameAndType 17 18), (0, u "coder"), (0, u "B"), (2, u "hash"), (0, u "I"), (2, u "hashIsZero"), (0, u "Z"), (0, .methodref 10 28), (0, .nameAndType 5 29), (0, u "([CIILjava/lang/Void;)V"), (8, .fieldref 10 39), (0, .nameAndType 40 26), (0, u "COMPACT_STRINGS"), (1, .class_ 44), (1, u "java/lang/StringUTF16"), (0, u "compress"), (1, .methodref 42 48), (0, .nameAndType 49 50), (0, u "coderFromArrayLen"), (0, u "([BI)B"), (56, .class_ 109), (1, u "java/lang/StringLatin1"), (67, .methodref 42 178), (0, .nameAndType 45 179), (0, u "([CII)[B"), (361, .methodref 107 542), (0, .nameAndType 543 544), (0, u "equals"), (0, u "([B[B)Z"), (28, u "(Ljava/lang/Object;)Z"), (1, .class_ 576), (0, u "java/lang/CharSequence"), (22, u "CASE_INSENSITIVE_ORDER"), (0, u "Ljava/util/Comparator;"), (409, u "([C)V"), (90, u "serialPersistentFields"), (0, u "[Ljava/io/ObjectStreamField;"), (0, .class_ 1104), (0, u "java/lang/String$CaseInsensitiveComparator"), (1, .class_ 1107), (0, u "java/io/Serializable"), (0, .class_ 1109), (0, u "java/lang/Comparable"), (0, .class_ 1111), (0, u "java/lang/constant/Constable"), (0, .class_ 1113), (0, u "java/lang/constant/ConstantDesc"), (2, u "serialVersionUID"), (0, u "J"), (3, u "REPL"), (0, u "C"), (2, u "LATIN1"), (1, u "UTF16")] 323

def k8m0 : Method := { name := "<init>", desc := "()V", sig := { parameters := [], returnType := none }, accessFlags := 1, code := none }
def k8c1 : Code := { maxStack := 5, maxLocals := 2, code := jdk_42_method_3_code, exceptionTable := #[], attributes := #[] }
def k8m1 : Method := { name := "<init>", desc := "([C)V", sig := { parameters := [(.array .char)], returnType := none }, accessFlags := 1, code := some k8c1 }
def k8c2 : Code := { maxStack := 2, maxLocals := 3, code := jdk_42_method_66_code, exceptionTable := #[], attributes := #[] }
def k8m2 : Method := { name := "equals", desc := "(Ljava/lang/Object;)Z", sig := { parameters := [(.object "java/lang/Object")], returnType := some .boolean }, accessFlags := 1, code := some k8c2 }
def k8c3 : Code := { maxStack := 4, maxLocals := 6, code := jdk_42_method_149_code, exceptionTable := #[], attributes := #[] }
def k8m3 : Method := { name := "<init>", desc := "([CIILjava/lang/Void;)V", sig := { parameters := [(.array .char), .int, .int, (.object "java/lang/Void")], returnType := none }, accessFlags := 2, code := some k8c3 }
/-- java/lang/String -/
def k8 : Class := { plain "java/lang/String" (some 0) with
  accessFlags := 49
  interfaces := #[3, 4, 5, 6, 7]
  cf := some (fileOf pool8 10 #[.nestMembers #[1103]] #[{ accessFlags := 1, nameIndex := 5, descriptorIndex := 6, attributes := #[] }, { accessFlags := 1, nameIndex := 5, descriptorIndex := 1010, attributes := #[] }, { accessFlags := 1, nameIndex := 543, descriptorIndex := 573, attributes := #[] }, { accessFlags := 2, nameIndex := 5, descriptorIndex := 29, attributes := #[] }] 49 2 #[1106, 1108, 575, 1110, 1112] #[{ accessFlags := 18, nameIndex := 13, descriptorIndex := 14, attributes := #[] }, { accessFlags := 18, nameIndex := 17, descriptorIndex := 18, attributes := #[] }, { accessFlags := 2, nameIndex := 21, descriptorIndex := 22, attributes := #[] }, { accessFlags := 2, nameIndex := 25, descriptorIndex := 26, attributes := #[] }, { accessFlags := 26, nameIndex := 1116, descriptorIndex := 1117, attributes := #[] }, { accessFlags := 24, nameIndex := 40, descriptorIndex := 26, attributes := #[] }, { accessFlags := 26, nameIndex := 1101, descriptorIndex := 1102, attributes := #[] }, { accessFlags := 26, nameIndex := 1121, descriptorIndex := 1122, attributes := #[] }, { accessFlags := 25, nameIndex := 599, descriptorIndex := 600, attributes := #[] }, { accessFlags := 24, nameIndex := 1125, descriptorIndex := 18, attributes := #[] }, { accessFlags := 24, nameIndex := 1127, descriptorIndex := 18, attributes := #[] }])
  fields := #[{ name := "value", type := (.array .byte), accessFlags := 18, slot := 0, constantValue := 0 }, { name := "coder", type := .byte, accessFlags := 18, slot := 1, constantValue := 0 }, { name := "hash", type := .int, accessFlags := 2, slot := 2, constantValue := 0 }, { name := "hashIsZero", type := .boolean, accessFlags := 2, slot := 3, constantValue := 0 }, { name := "serialVersionUID", type := .long, accessFlags := 26, slot := 0, constantValue := 0 }, { name := "COMPACT_STRINGS", type := .boolean, accessFlags := 24, slot := 1, constantValue := 0 }, { name := "serialPersistentFields", type := (.array (.object "java/io/ObjectStreamField")), accessFlags := 26, slot := 2, constantValue := 0 }, { name := "REPL", type := .char, accessFlags := 26, slot := 3, constantValue := 0 }, { name := "CASE_INSENSITIVE_ORDER", type := (.object "java/util/Comparator"), accessFlags := 25, slot := 4, constantValue := 0 }, { name := "LATIN1", type := .byte, accessFlags := 24, slot := 5, constantValue := 0 }, { name := "UTF16", type := .byte, accessFlags := 24, slot := 6, constantValue := 0 }]
  methods := #[k8m0, k8m1, k8m2, k8m3]
  instanceTypes := #[(.array .byte), .byte, .int, .boolean]
  staticTypes := #[.long, .boolean, (.array (.object "java/io/ObjectStreamField")), .char, (.object "java/util/Comparator"), .byte, .byte]
  resolved := Array.replicate 1451 none
  statics := some 0 }

def pool9 : Array CpInfo := pool [(2, .class_ 4), (1, u "java/lang/Enum"), (0, u "name"), (0, u "Ljava/lang/String;"), (2, u "ordinal"), (0, u "I"), (1, .class_ 14), (1, u "java/lang/Object"), (4, u "hash"), (86, .class_ 108), (1, u "java/lang/Enum$EnumDesc"), (2, .class_ 112), (0, u "java/lang/constant/Constable"), (0, .class_ 114), (0, u "java/lang/Comparable"), (0, .class_ 116), (0, u "java/io/Serializable")] 87

/-- java/lang/Enum -/
def k9 : Class := { plain "java/lang/Enum" (some 0) with
  accessFlags := 1057
  interfaces := #[6, 4, 3]
  cf := some (fileOf pool9 2 #[.nestMembers #[106]] #[] 1057 12 #[111, 113, 115] #[{ accessFlags := 18, nameIndex := 5, descriptorIndex := 6, attributes := #[] }, { accessFlags := 18, nameIndex := 9, descriptorIndex := 10, attributes := #[] }, { accessFlags := 2, nameIndex := 19, descriptorIndex := 10, attributes := #[] }])
  fields := #[{ name := "name", type := (.object "java/lang/String"), accessFlags := 18, slot := 0, constantValue := 0 }, { name := "ordinal", type := .int, accessFlags := 18, slot := 1, constantValue := 0 }, { name := "hash", type := .int, accessFlags := 2, slot := 2, constantValue := 0 }]
  methods := #[]
  instanceTypes := #[(.object "java/lang/String"), .int, .int]
  staticTypes := #[]
  resolved := Array.replicate 204 none
  statics := none }

def pool10 : Array CpInfo := pool [(1, .class_ 2), (0, u "com/example/tranche/tranche/Payout$Kind"), (2, u "GRAB"), (0, u "Lcom/example/tranche/tranche/Payout$Kind;"), (2, u "REFUND"), (2, u "$VALUES"), (0, u "[Lcom/example/tranche/tranche/Payout$Kind;"), (6, .class_ 22), (1, u "java/lang/Enum"), (8, u "code"), (0, u "Ljava/lang/String;"), (45, .class_ 79), (0, u "com/example/tranche/tranche/Payout")] 16

/-- com/example/tranche/tranche/Payout$Kind -/
def k10 : Class := { plain "com/example/tranche/tranche/Payout$Kind" (some 9) with
  accessFlags := 16432
  interfaces := #[]
  cf := some (fileOf pool10 1 #[.nestHost 78] #[] 16432 20 #[] #[{ accessFlags := 16409, nameIndex := 5, descriptorIndex := 6, attributes := #[] }, { accessFlags := 16409, nameIndex := 9, descriptorIndex := 6, attributes := #[] }, { accessFlags := 18, nameIndex := 31, descriptorIndex := 32, attributes := #[] }, { accessFlags := 4122, nameIndex := 12, descriptorIndex := 13, attributes := #[] }])
  fields := #[{ name := "GRAB", type := (.object "com/example/tranche/tranche/Payout$Kind"), accessFlags := 16409, slot := 0, constantValue := 0 }, { name := "REFUND", type := (.object "com/example/tranche/tranche/Payout$Kind"), accessFlags := 16409, slot := 1, constantValue := 0 }, { name := "code", type := (.object "java/lang/String"), accessFlags := 18, slot := 3, constantValue := 0 }, { name := "$VALUES", type := (.array (.object "com/example/tranche/tranche/Payout$Kind")), accessFlags := 4122, slot := 2, constantValue := 0 }]
  methods := #[]
  instanceTypes := #[(.object "java/lang/String"), .int, .int, (.object "java/lang/String")]
  staticTypes := #[(.object "com/example/tranche/tranche/Payout$Kind"), (.object "com/example/tranche/tranche/Payout$Kind"), (.array (.object "com/example/tranche/tranche/Payout$Kind"))]
  resolved := Array.replicate 96 none
  statics := some 1 }

def pool11 : Array CpInfo := pool [(1, .methodref 2 3), (0, .class_ 4), (0, .nameAndType 5 6), (0, u "java/lang/Object"), (0, u "<init>"), (0, u "()V"), (0, .fieldref 8 9), (0, .class_ 10), (0, .nameAndType 11 12), (0, u "com/example/tranche/tranche/Payout"), (0, u "kind"), (0, u "Lcom/example/tranche/tranche/Payout$Kind;"), (0, .fieldref 8 14), (0, .nameAndType 15 16), (0, u "packetId"), (0, u "Ljava/lang/String;"), (0, .fieldref 8 18), (0, .nameAndType 19 16), (0, u "user"), (0, .fieldref 8 21), (0, .nameAndType 22 23), (0, u "amountCents"), (0, u "J"), (0, u "(Lcom/example/tranche/tranche/Payout$Kind;Ljava/lang/String;Ljava/lang/String;J)V"), (8, .class_ 34), (0, u "com/example/tranche/tranche/Payout$Kind")] 2

def k11c0 : Code := { maxStack := 3, maxLocals := 6, code := prog_9_method_1_code, exceptionTable := #[], attributes := #[] }
def k11m0 : Method := { name := "<init>", desc := "(Lcom/example/tranche/tranche/Payout$Kind;Ljava/lang/String;Ljava/lang/String;J)V", sig := { parameters := [(.object "com/example/tranche/tranche/Payout$Kind"), (.object "java/lang/String"), (.object "java/lang/String"), .long], returnType := none }, accessFlags := 0, code := some k11c0 }
/-- com/example/tranche/tranche/Payout -/
def k11 : Class := { plain "com/example/tranche/tranche/Payout" (some 0) with
  accessFlags := 32
  interfaces := #[]
  cf := some (fileOf pool11 8 #[.nestMembers #[33]] #[{ accessFlags := 0, nameIndex := 5, descriptorIndex := 24, attributes := #[] }] 32 2 #[] #[{ accessFlags := 18, nameIndex := 11, descriptorIndex := 12, attributes := #[] }, { accessFlags := 18, nameIndex := 15, descriptorIndex := 16, attributes := #[] }, { accessFlags := 18, nameIndex := 19, descriptorIndex := 16, attributes := #[] }, { accessFlags := 18, nameIndex := 22, descriptorIndex := 23, attributes := #[] }])
  fields := #[{ name := "kind", type := (.object "com/example/tranche/tranche/Payout$Kind"), accessFlags := 18, slot := 0, constantValue := 0 }, { name := "packetId", type := (.object "java/lang/String"), accessFlags := 18, slot := 1, constantValue := 0 }, { name := "user", type := (.object "java/lang/String"), accessFlags := 18, slot := 2, constantValue := 0 }, { name := "amountCents", type := .long, accessFlags := 18, slot := 3, constantValue := 0 }]
  methods := #[k11m0]
  instanceTypes := #[(.object "com/example/tranche/tranche/Payout$Kind"), (.object "java/lang/String"), (.object "java/lang/String"), .long]
  staticTypes := #[]
  resolved := Array.replicate 37 none
  statics := none }

def pool12 : Array CpInfo := pool [(1, .methodref 2 3), (0, .class_ 4), (0, .nameAndType 5 6), (0, u "java/lang/Object"), (0, u "<init>"), (0, u "()V"), (0, .fieldref 8 9), (0, .class_ 10), (0, .nameAndType 11 12), (0, u "com/example/tranche/tranche/Delivery"), (0, u "payoutId"), (0, u "Ljava/lang/String;"), (0, .fieldref 8 14), (0, .nameAndType 15 16), (0, u "payout"), (0, u "Lcom/example/tranche/tranche/Payout;"), (0, .fieldref 8 18), (0, .nameAndType 19 20), (0, u "tries"), (0, u "I"), (2, u "(Ljava/lang/String;Lcom/example/tranche/tranche/Payout;I)V"), (0, .methodref 25 26), (0, .class_ 27), (0, .nameAndType 28 29), (0, u "java/lang/String"), (0, u "equals"), (0, u "(Ljava/lang/Object;)Z")] 23

def k12c0 : Code := { maxStack := 2, maxLocals := 4, code := prog_4_method_1_code, exceptionTable := #[], attributes := #[] }
def k12m0 : Method := { name := "<init>", desc := "(Ljava/lang/String;Lcom/example/tranche/tranche/Payout;I)V", sig := { parameters := [(.object "java/lang/String"), (.object "com/example/tranche/tranche/Payout"), .int], returnType := none }, accessFlags := 0, code := some k12c0 }
def k12c1 : Code := { maxStack := 2, maxLocals := 3, code := prog_4_method_6_code, exceptionTable := #[], attributes := #[] }
def k12m1 : Method := { name := "equals", desc := "(Ljava/lang/Object;)Z", sig := { parameters := [(.object "java/lang/Object")], returnType := some .boolean }, accessFlags := 1, code := some k12c1 }
/-- com/example/tranche/tranche/Delivery -/
def k12 : Class := { plain "com/example/tranche/tranche/Delivery" (some 0) with
  accessFlags := 32
  interfaces := #[]
  cf := some (fileOf pool12 8 #[] #[{ accessFlags := 0, nameIndex := 5, descriptorIndex := 23, attributes := #[] }, { accessFlags := 1, nameIndex := 28, descriptorIndex := 29, attributes := #[] }] 32 2 #[] #[{ accessFlags := 18, nameIndex := 11, descriptorIndex := 12, attributes := #[] }, { accessFlags := 18, nameIndex := 15, descriptorIndex := 16, attributes := #[] }, { accessFlags := 18, nameIndex := 19, descriptorIndex := 20, attributes := #[] }])
  fields := #[{ name := "payoutId", type := (.object "java/lang/String"), accessFlags := 18, slot := 0, constantValue := 0 }, { name := "payout", type := (.object "com/example/tranche/tranche/Payout"), accessFlags := 18, slot := 1, constantValue := 0 }, { name := "tries", type := .int, accessFlags := 18, slot := 2, constantValue := 0 }]
  methods := #[k12m0, k12m1]
  instanceTypes := #[(.object "java/lang/String"), (.object "com/example/tranche/tranche/Payout"), .int]
  staticTypes := #[]
  resolved := Array.replicate 53 none
  statics := none }

def pool13 : Array CpInfo := pool [(4, .class_ 6), (1, u "java/lang/Object"), (0, u "<init>"), (0, u "()V"), (5, .class_ 16), (1, u "java/lang/StringLatin1"), (104, u "$assertionsDisabled"), (0, u "Z"), (98, .class_ 223), (1, u "java/lang/StringLatin1$LinesSpliterator"), (57, u "equals"), (0, u "([B[B)Z"), (107, .class_ 391), (0, u "java/lang/StringLatin1$CharsSpliterator")] 3

def k13m0 : Method := { name := "<init>", desc := "()V", sig := { parameters := [], returnType := none }, accessFlags := 0, code := none }
def k13c1 : Code := { maxStack := 3, maxLocals := 3, code := jdk_43_method_13_code, exceptionTable := #[], attributes := #[] }
def k13m1 : Method := { name := "equals", desc := "([B[B)Z", sig := { parameters := [(.array .byte), (.array .byte)], returnType := some .boolean }, accessFlags := 9, code := some k13c1 }
/-- java/lang/StringLatin1 -/
def k13 : Class := { plain "java/lang/StringLatin1" (some 0) with
  accessFlags := 48
  interfaces := #[]
  cf := some (fileOf pool13 14 #[.nestMembers #[390, 221]] #[{ accessFlags := 0, nameIndex := 7, descriptorIndex := 8, attributes := #[] }, { accessFlags := 9, nameIndex := 281, descriptorIndex := 282, attributes := #[] }] 48 4 #[] #[{ accessFlags := 4120, nameIndex := 121, descriptorIndex := 122, attributes := #[] }])
  fields := #[{ name := "$assertionsDisabled", type := .boolean, accessFlags := 4120, slot := 0, constantValue := 0 }]
  methods := #[k13m0, k13m1]
  instanceTypes := #[]
  staticTypes := #[.boolean]
  resolved := Array.replicate 395 none
  statics := none }

def pool14 : Array CpInfo := pool [(6, .class_ 8), (1, u "java/lang/Object"), (0, u "<init>"), (0, u "()V"), (1, .class_ 14), (1, u "java/lang/StringUTF16"), (31, u "$assertionsDisabled"), (0, u "Z"), (13, u "HI_BYTE_SHIFT"), (0, u "I"), (2, u "LO_BYTE_SHIFT"), (49, .methodref 12 116), (0, .nameAndType 117 118), (0, u "compress"), (0, u "([CI[BII)I"), (3, u "([CII)[B"), (138, u "coderFromArrayLen"), (0, u "([BI)B"), (106, .class_ 371), (1, u "java/lang/StringUTF16$LinesSpliterator"), (58, u "MAX_LENGTH"), (196, .class_ 628), (0, u "java/lang/StringUTF16$CodePointsSpliterator"), (0, .class_ 630), (0, u "java/lang/StringUTF16$CharsSpliterator")] 4

def k14m0 : Method := { name := "<init>", desc := "()V", sig := { parameters := [], returnType := none }, accessFlags := 0, code := none }
def k14c1 : Code := { maxStack := 2, maxLocals := 2, code := jdk_52_method_15_code, exceptionTable := #[], attributes := #[] }
def k14m1 : Method := { name := "coderFromArrayLen", desc := "([BI)B", sig := { parameters := [(.array .byte), .int], returnType := some .byte }, accessFlags := 8, code := some k14c1 }
def k14c2 : Code := { maxStack := 5, maxLocals := 6, code := jdk_52_method_16_code, exceptionTable := #[], attributes := #[] }
def k14m2 : Method := { name := "compress", desc := "([CII)[B", sig := { parameters := [(.array .char), .int, .int], returnType := some (.array .byte) }, accessFlags := 9, code := some k14c2 }
def k14c3 : Code := { maxStack := 3, maxLocals := 7, code := jdk_52_method_21_code, exceptionTable := #[], attributes := #[] }
def k14m3 : Method := { name := "compress", desc := "([CI[BII)I", sig := { parameters := [(.array .char), .int, (.array .byte), .int, .int], returnType := some .int }, accessFlags := 9, code := some k14c3 }
/-- java/lang/StringUTF16 -/
def k14 : Class := { plain "java/lang/StringUTF16" (some 0) with
  accessFlags := 48
  interfaces := #[]
  cf := some (fileOf pool14 12 #[.nestMembers #[627, 629, 369]] #[{ accessFlags := 0, nameIndex := 9, descriptorIndex := 10, attributes := #[] }, { accessFlags := 8, nameIndex := 261, descriptorIndex := 262, attributes := #[] }, { accessFlags := 9, nameIndex := 117, descriptorIndex := 122, attributes := #[] }, { accessFlags := 9, nameIndex := 117, descriptorIndex := 118, attributes := #[] }] 48 6 #[] #[{ accessFlags := 26, nameIndex := 61, descriptorIndex := 62, attributes := #[] }, { accessFlags := 26, nameIndex := 65, descriptorIndex := 62, attributes := #[] }, { accessFlags := 24, nameIndex := 430, descriptorIndex := 62, attributes := #[] }, { accessFlags := 4120, nameIndex := 46, descriptorIndex := 47, attributes := #[] }])
  fields := #[{ name := "HI_BYTE_SHIFT", type := .int, accessFlags := 26, slot := 0, constantValue := 0 }, { name := "LO_BYTE_SHIFT", type := .int, accessFlags := 26, slot := 1, constantValue := 0 }, { name := "MAX_LENGTH", type := .int, accessFlags := 24, slot := 2, constantValue := 0 }, { name := "$assertionsDisabled", type := .boolean, accessFlags := 4120, slot := 3, constantValue := 0 }]
  methods := #[k14m0, k14m1, k14m2, k14m3]
  instanceTypes := #[]
  staticTypes := #[.int, .int, .int, .boolean]
  resolved := Array.replicate 635 none
  statics := none }

def pool15 : Array CpInfo := pool [(2, .class_ 4), (1, u "java/lang/Object"), (0, u "<init>"), (0, u "()V"), (17, .class_ 26), (1, u "jdk/internal/util/Preconditions"), (28, .class_ 56), (0, u "jdk/internal/util/Preconditions$4"), (57, .class_ 115), (0, u "jdk/internal/util/Preconditions$1"), (7, u "SIOOBE_FORMATTER"), (0, u "Ljava/util/function/BiFunction;"), (0, .class_ 126), (0, u "jdk/internal/util/Preconditions$2"), (3, u "AIOOBE_FORMATTER"), (0, .class_ 132), (0, u "jdk/internal/util/Preconditions$3"), (3, u "IOOBE_FORMATTER")] 57

def k15m0 : Method := { name := "<init>", desc := "()V", sig := { parameters := [], returnType := none }, accessFlags := 1, code := none }
/-- jdk/internal/util/Preconditions -/
def k15 : Class := { plain "jdk/internal/util/Preconditions" (some 0) with
  accessFlags := 33
  interfaces := #[]
  cf := some (fileOf pool15 24 #[.nestMembers #[55, 131, 125, 114]] #[{ accessFlags := 1, nameIndex := 5, descriptorIndex := 6, attributes := #[] }] 33 2 #[] #[{ accessFlags := 25, nameIndex := 123, descriptorIndex := 124, attributes := #[] }, { accessFlags := 25, nameIndex := 130, descriptorIndex := 124, attributes := #[] }, { accessFlags := 25, nameIndex := 136, descriptorIndex := 124, attributes := #[] }])
  fields := #[{ name := "SIOOBE_FORMATTER", type := (.object "java/util/function/BiFunction"), accessFlags := 25, slot := 0, constantValue := 0 }, { name := "AIOOBE_FORMATTER", type := (.object "java/util/function/BiFunction"), accessFlags := 25, slot := 1, constantValue := 0 }, { name := "IOOBE_FORMATTER", type := (.object "java/util/function/BiFunction"), accessFlags := 25, slot := 2, constantValue := 0 }]
  methods := #[k15m0]
  instanceTypes := #[]
  staticTypes := #[(.object "java/util/function/BiFunction"), (.object "java/util/function/BiFunction"), (.object "java/util/function/BiFunction")]
  resolved := Array.replicate 194 none
  statics := some 2 }

def pool16 : Array CpInfo := pool [(9, u "<init>"), (6, .class_ 18), (1, u "java/lang/Object"), (0, u "()V"), (1, .class_ 23), (1, u "jdk/internal/util/ArraysSupport"), (0, u "LOG2_ARRAY_LONG_INDEX_SCALE"), (0, u "I"), (2, u "U"), (0, u "Ljdk/internal/misc/Unsafe;"), (8, u "BIG_ENDIAN"), (0, u "Z"), (8, u "LOG2_BYTE_BIT_SIZE"), (4, u "LOG2_ARRAY_INT_INDEX_SCALE"), (54, u "JLA"), (0, u "Ljdk/internal/access/JavaLangAccess;"), (11, u "LOG2_ARRAY_BOOLEAN_INDEX_SCALE"), (9, u "LOG2_ARRAY_BYTE_INDEX_SCALE"), (5, u "LOG2_ARRAY_CHAR_INDEX_SCALE"), (5, u "LOG2_ARRAY_SHORT_INDEX_SCALE"), (18, u "LOG2_ARRAY_FLOAT_INDEX_SCALE"), (24, u "LOG2_ARRAY_DOUBLE_INDEX_SCALE"), (89, u "T_BOOLEAN"), (2, u "T_CHAR"), (1, u "T_FLOAT"), (1, u "T_DOUBLE"), (1, u "T_BYTE"), (1, u "T_SHORT"), (1, u "T_INT"), (1, u "T_LONG"), (1, u "SOFT_MAX_ARRAY_LENGTH")] 83

def k16m0 : Method := { name := "<init>", desc := "()V", sig := { parameters := [], returnType := none }, accessFlags := 2, code := none }
/-- jdk/internal/util/ArraysSupport -/
def k16 : Class := { plain "jdk/internal/util/ArraysSupport" (some 0) with
  accessFlags := 33
  interfaces := #[]
  cf := some (fileOf pool16 21 #[] #[{ accessFlags := 2, nameIndex := 9, descriptorIndex := 19, attributes := #[] }] 33 16 #[] #[{ accessFlags := 24, nameIndex := 28, descriptorIndex := 29, attributes := #[] }, { accessFlags := 26, nameIndex := 38, descriptorIndex := 39, attributes := #[] }, { accessFlags := 25, nameIndex := 121, descriptorIndex := 25, attributes := #[] }, { accessFlags := 25, nameIndex := 131, descriptorIndex := 25, attributes := #[] }, { accessFlags := 25, nameIndex := 137, descriptorIndex := 25, attributes := #[] }, { accessFlags := 25, nameIndex := 143, descriptorIndex := 25, attributes := #[] }, { accessFlags := 25, nameIndex := 53, descriptorIndex := 25, attributes := #[] }, { accessFlags := 25, nameIndex := 24, descriptorIndex := 25, attributes := #[] }, { accessFlags := 25, nameIndex := 162, descriptorIndex := 25, attributes := #[] }, { accessFlags := 25, nameIndex := 187, descriptorIndex := 25, attributes := #[] }, { accessFlags := 26, nameIndex := 48, descriptorIndex := 25, attributes := #[] }, { accessFlags := 25, nameIndex := 277, descriptorIndex := 25, attributes := #[] }, { accessFlags := 25, nameIndex := 280, descriptorIndex := 25, attributes := #[] }, { accessFlags := 25, nameIndex := 282, descriptorIndex := 25, attributes := #[] }, { accessFlags := 25, nameIndex := 284, descriptorIndex := 25, attributes := #[] }, { accessFlags := 25, nameIndex := 286, descriptorIndex := 25, attributes := #[] }, { accessFlags := 25, nameIndex := 288, descriptorIndex := 25, attributes := #[] }, { accessFlags := 25, nameIndex := 290, descriptorIndex := 25, attributes := #[] }, { accessFlags := 25, nameIndex := 292, descriptorIndex := 25, attributes := #[] }, { accessFlags := 26, nameIndex := 108, descriptorIndex := 109, attributes := #[] }, { accessFlags := 25, nameIndex := 294, descriptorIndex := 25, attributes := #[] }])
  fields := #[{ name := "U", type := (.object "jdk/internal/misc/Unsafe"), accessFlags := 24, slot := 0, constantValue := 0 }, { name := "BIG_ENDIAN", type := .boolean, accessFlags := 26, slot := 1, constantValue := 0 }, { name := "LOG2_ARRAY_BOOLEAN_INDEX_SCALE", type := .int, accessFlags := 25, slot := 2, constantValue := 0 }, { name := "LOG2_ARRAY_BYTE_INDEX_SCALE", type := .int, accessFlags := 25, slot := 3, constantValue := 0 }, { name := "LOG2_ARRAY_CHAR_INDEX_SCALE", type := .int, accessFlags := 25, slot := 4, constantValue := 0 }, { name := "LOG2_ARRAY_SHORT_INDEX_SCALE", type := .int, accessFlags := 25, slot := 5, constantValue := 0 }, { name := "LOG2_ARRAY_INT_INDEX_SCALE", type := .int, accessFlags := 25, slot := 6, constantValue := 0 }, { name := "LOG2_ARRAY_LONG_INDEX_SCALE", type := .int, accessFlags := 25, slot := 7, constantValue := 0 }, { name := "LOG2_ARRAY_FLOAT_INDEX_SCALE", type := .int, accessFlags := 25, slot := 8, constantValue := 0 }, { name := "LOG2_ARRAY_DOUBLE_INDEX_SCALE", type := .int, accessFlags := 25, slot := 9, constantValue := 0 }, { name := "LOG2_BYTE_BIT_SIZE", type := .int, accessFlags := 26, slot := 10, constantValue := 0 }, { name := "T_BOOLEAN", type := .int, accessFlags := 25, slot := 11, constantValue := 0 }, { name := "T_CHAR", type := .int, accessFlags := 25, slot := 12, constantValue := 0 }, { name := "T_FLOAT", type := .int, accessFlags := 25, slot := 13, constantValue := 0 }, { name := "T_DOUBLE", type := .int, accessFlags := 25, slot := 14, constantValue := 0 }, { name := "T_BYTE", type := .int, accessFlags := 25, slot := 15, constantValue := 0 }, { name := "T_SHORT", type := .int, accessFlags := 25, slot := 16, constantValue := 0 }, { name := "T_INT", type := .int, accessFlags := 25, slot := 17, constantValue := 0 }, { name := "T_LONG", type := .int, accessFlags := 25, slot := 18, constantValue := 0 }, { name := "JLA", type := (.object "jdk/internal/access/JavaLangAccess"), accessFlags := 26, slot := 19, constantValue := 0 }, { name := "SOFT_MAX_ARRAY_LENGTH", type := .int, accessFlags := 25, slot := 20, constantValue := 0 }]
  methods := #[k16m0]
  instanceTypes := #[]
  staticTypes := #[(.object "jdk/internal/misc/Unsafe"), .boolean, .int, .int, .int, .int, .int, .int, .int, .int, .int, .int, .int, .int, .int, .int, .int, .int, .int, (.object "jdk/internal/access/JavaLangAccess"), .int]
  resolved := Array.replicate 378 none
  statics := none }

def pool17 : Array CpInfo := pool [(1, u "java/lang/Cloneable"), (0, .class_ 1), (0, u "java/lang/Object"), (0, .class_ 3)] 3

/-- java/lang/Cloneable -/
def k17 : Class := { plain "java/lang/Cloneable" (some 0) with
  accessFlags := 1537
  interfaces := #[]
  cf := some (fileOf pool17 2 #[] #[] 1537 4 #[] #[])
  fields := #[]
  methods := #[]
  instanceTypes := #[]
  staticTypes := #[]
  resolved := Array.replicate 8 none
  statics := none }

/-- the primitive byte -/
def k18 : Class := { plain "byte" none with kind := .primitive 'B', accessFlags := 0x411 }
/-- [B -/
def k19 : Class := { plain "[B" (some 0) with kind := .array 18 .byte, interfaces := #[17, 3], accessFlags := 1041 }

/-- the primitive char -/
def k20 : Class := { plain "char" none with kind := .primitive 'C', accessFlags := 0x411 }
/-- [C -/
def k21 : Class := { plain "[C" (some 0) with kind := .array 20 .char, interfaces := #[17, 3], accessFlags := 1041 }

/-- the primitive int -/
def k22 : Class := { plain "int" none with kind := .primitive 'I', accessFlags := 0x411 }
/-- [I -/
def k23 : Class := { plain "[I" (some 0) with kind := .array 22 .int, interfaces := #[17, 3], accessFlags := 1041 }

def heap : Heap := #[{ cls := 8, slots := #[.long 0, .int 1, .null, .int 0, .null, .int 0, .int 0], vm := .statics 8 },
  { cls := 10, slots := #[.ref 4, .ref 3, .null], vm := .statics 10 },
  { cls := 15, slots := #[.null, .null, .null], vm := .statics 15 },
  { cls := 10, slots := #[.null, .int 0, .int 0, .null], vm := .none },
  { cls := 10, slots := #[.null, .int 1, .int 0, .null], vm := .none }]
def classes : Array Class := #[k0, k1, k2, k3, k4, k5, k6, k7, k8, k9, k10, k11, k12, k13, k14, k15, k16, k17, k18, k19, k20, k21, k22, k23]
def interned : List (Array UInt16 × Addr) := []
def slotsUsed : Nat := 21
def theMethod : MethodId := ⟨1, 2⟩
def args0 : Array Value := #[.int 5, .int 3, .int 7, .int 1]
def aboutOver (below : List Frame) : State where
  vm := { classes := classes, interned := interned.toArray }
  heap := heap
  slotsUsed := slotsUsed
  threads := #[{ frames := .invoking theMethod args0 :: below }]
def below0 : List Frame := [.native { method := ⟨0, 0⟩, args := #[] }]
def about1 : State := aboutOver below0
def p0 : Program := .bare "" "" ""
def e0 : Env := launch0.env 0 0 0
theorem w_frames : about1.frames = Frame.invoking theMethod args0 :: below0 := rfl
set_option maxRecDepth 65536 in
theorem w_args : argsFit about1.vm theMethod args0 = true := by decide +kernel
set_option maxRecDepth 65536 in
theorem w_heap : heapFits about1 = true := by decide +kernel
set_option maxRecDepth 65536 in
theorem w_runnable : about1.curStatus? = some .runnable := by decide +kernel
set_option maxRecDepth 65536 in
theorem w_alone : about1.alone = true := by decide +kernel
set_option maxRecDepth 65536 in
theorem w_named : about1.methodNamed? x = some theMethod := by decide +kernel
set_option maxRecDepth 65536 in
theorem w_hears : about1.hears theMethod below0 = true := by decide +kernel
set_option maxRecDepth 65536 in
theorem w_ripe : about1.ripe theMethod args0 below0 = true := by decide +kernel
theorem w_running : about1.status = .running := rfl
set_option maxRecDepth 65536 in
theorem w_room : about1.hasRoom e0.platform room_1 = true :=
  launch0.hasRoom_least _ room_1 (by decide +kernel) (by decide +kernel) (by decide +kernel) (by decide +kernel) (by decide +kernel) (by decide +kernel)
theorem allAtoms_all (ts : List Jvm.Cond) (a : Array Jvm.Value) (st : Jvm.State) : (allAtoms ts).before a st = ts.all (fun c => c.before a st) := by
  induction ts with
  | nil => rfl
  | cons c t ih =>
    show (Jvm.Cond.and c (allAtoms t)).before a st = _
    rw [Jvm.Cond.before_and, ih, List.all_cons]
def words1 : List Jvm.Cond := Jvm.Cond.code x code maxLocals ret :: tables_1
/-- a 'code' word, met by the world's own term for the bytes: nothing is compared byte by byte -/
theorem code_word {y : MethodName} {bytes : ByteArray} {mx : Nat} {rt : Option FieldType} {a : Array Value} {s : State} {m : MethodId} {meth : Method} {c : Code} (h1 : s.methodNamed? y = some m) (h2 : s.vm.method? m = some meth) (h3 : meth.code = some c) (h4 : c.code = bytes)
    (h5 : (c.maxLocals == mx && c.exceptionTable.isEmpty && decide (c.maxStack ≤ mostOperands) && decide (meth.sig.returnType = rt) && !meth.locks && decide (parseMethodDescriptor y.desc = some meth.sig)) = true) : (Jvm.Cond.code y bytes mx rt).before a s = true := by
  simp only [Bool.and_eq_true, beq_iff_eq, Bool.not_eq_true', decide_eq_true_eq] at h5
  obtain ⟨⟨⟨⟨⟨g1, g2⟩, g3⟩, g4⟩, g5⟩, g6⟩ := h5
  simp [Cond.before, Cond.holds, Cond.value, h1, h2, h3, h4, g1, g2, g3, g4, g5, g6]
def isCode : Jvm.Cond → Bool
  | .code _ _ _ _ => true
  | _ => false
theorem all_split {L : List Jvm.Cond} {P : Jvm.Cond → Bool} (h1 : L.all (fun c => isCode c || P c) = true) (h2 : ∀ c ∈ L.filter isCode, P c = true) : L.all P = true := by
  refine List.all_eq_true.mpr fun c hc => ?_
  have h := List.all_eq_true.mp h1 c hc
  rcases Bool.eq_false_or_eq_true (isCode c) with hi | hi
  · exact h2 c (List.mem_filter.mpr ⟨hc, hi⟩)
  · simpa [hi] using h
set_option maxRecDepth 65536 in
theorem w_c0 : (Jvm.Cond.code x code maxLocals ret).before args0 about1 = true := code_word (m := ⟨1, 2⟩) (meth := k1m2) (c := k1c2) (by decide +kernel) rfl rfl rfl (by decide +kernel)
set_option maxRecDepth 65536 in
theorem w_c1 : (Jvm.Cond.code ({ cls := "java/lang/Math", name := "min", desc := "(II)I" } : Jvm.MethodName) jdk_29_method_69_code (2 : Nat) (Option.some Jvm.ClassFile.FieldType.int)).before args0 about1 = true := code_word (m := ⟨2, 1⟩) (meth := k2m1) (c := k2c1) (by decide +kernel) rfl rfl rfl (by decide +kernel)
set_option maxRecDepth 65536 in
theorem w_c2 : (Jvm.Cond.code ({ cls := "com/example/tranche/tranche/DeliveryEqualsPinLaw", name := "mk", desc := "(ICC)Ljava/lang/String;" } : Jvm.MethodName) method_2_code (3 : Nat) (Option.some (Jvm.ClassFile.FieldType.object "java/lang/String"))).before args0 about1 = true := code_word (m := ⟨1, 1⟩) (meth := k1m1) (c := k1c1) (by decide +kernel) rfl rfl rfl (by decide +kernel)
set_option maxRecDepth 65536 in
theorem w_c3 : (Jvm.Cond.code ({ cls := "java/lang/String", name := "<init>", desc := "([C)V" } : Jvm.MethodName) jdk_42_method_3_code (2 : Nat) (Option.none : Option Jvm.ClassFile.FieldType)).before args0 about1 = true := code_word (m := ⟨8, 1⟩) (meth := k8m1) (c := k8c1) (by decide +kernel) rfl rfl rfl (by decide +kernel)
set_option maxRecDepth 65536 in
theorem w_c4 : (Jvm.Cond.code ({ cls := "java/lang/String", name := "<init>", desc := "([CIILjava/lang/Void;)V" } : Jvm.MethodName) jdk_42_method_149_code (6 : Nat) (Option.none : Option Jvm.ClassFile.FieldType)).before args0 about1 = true := code_word (m := ⟨8, 3⟩) (meth := k8m3) (c := k8c3) (by decide +kernel) rfl rfl rfl (by decide +kernel)
set_option maxRecDepth 65536 in
theorem w_c5 : (Jvm.Cond.code ({ cls := "java/lang/Object", name := "<init>", desc := "()V" } : Jvm.MethodName) object_method_1_code (1 : Nat) (Option.none : Option Jvm.ClassFile.FieldType)).before args0 about1 = true := code_word (m := ⟨0, 0⟩) (meth := k0m0) (c := k0c0) (by decide +kernel) rfl rfl rfl (by decide +kernel)
set_option maxRecDepth 65536 in
theorem w_c6 : (Jvm.Cond.code ({ cls := "com/example/tranche/tranche/Payout", name := "<init>", desc := "(Lcom/example/tranche/tranche/Payout$Kind;Ljava/lang/String;Ljava/lang/String;J)V" } : Jvm.MethodName) prog_9_method_1_code (6 : Nat) (Option.none : Option Jvm.ClassFile.FieldType)).before args0 about1 = true := code_word (m := ⟨11, 0⟩) (meth := k11m0) (c := k11c0) (by decide +kernel) rfl rfl rfl (by decide +kernel)
set_option maxRecDepth 65536 in
theorem w_c7 : (Jvm.Cond.code ({ cls := "com/example/tranche/tranche/Delivery", name := "<init>", desc := "(Ljava/lang/String;Lcom/example/tranche/tranche/Payout;I)V" } : Jvm.MethodName) prog_4_method_1_code (4 : Nat) (Option.none : Option Jvm.ClassFile.FieldType)).before args0 about1 = true := code_word (m := ⟨12, 0⟩) (meth := k12m0) (c := k12c0) (by decide +kernel) rfl rfl rfl (by decide +kernel)
set_option maxRecDepth 65536 in
theorem w_c8 : (Jvm.Cond.code ({ cls := "com/example/tranche/tranche/Delivery", name := "equals", desc := "(Ljava/lang/Object;)Z" } : Jvm.MethodName) prog_4_method_6_code (3 : Nat) (Option.some Jvm.ClassFile.FieldType.boolean)).before args0 about1 = true := code_word (m := ⟨12, 1⟩) (meth := k12m1) (c := k12c1) (by decide +kernel) rfl rfl rfl (by decide +kernel)
set_option maxRecDepth 65536 in
theorem w_c9 : (Jvm.Cond.code ({ cls := "java/lang/String", name := "equals", desc := "(Ljava/lang/Object;)Z" } : Jvm.MethodName) jdk_42_method_66_code (3 : Nat) (Option.some Jvm.ClassFile.FieldType.boolean)).before args0 about1 = true := code_word (m := ⟨8, 2⟩) (meth := k8m2) (c := k8c2) (by decide +kernel) rfl rfl rfl (by decide +kernel)
set_option maxRecDepth 65536 in
theorem w_c10 : (Jvm.Cond.code ({ cls := "java/lang/StringLatin1", name := "equals", desc := "([B[B)Z" } : Jvm.MethodName) jdk_43_method_13_code (3 : Nat) (Option.some Jvm.ClassFile.FieldType.boolean)).before args0 about1 = true := code_word (m := ⟨13, 1⟩) (meth := k13m1) (c := k13c1) (by decide +kernel) rfl rfl rfl (by decide +kernel)
set_option maxRecDepth 65536 in
theorem w_c11 : (Jvm.Cond.code ({ cls := "java/lang/StringUTF16", name := "compress", desc := "([CII)[B" } : Jvm.MethodName) jdk_52_method_16_code (6 : Nat) (Option.some (Jvm.ClassFile.FieldType.array Jvm.ClassFile.FieldType.byte))).before args0 about1 = true := code_word (m := ⟨14, 2⟩) (meth := k14m2) (c := k14c2) (by decide +kernel) rfl rfl rfl (by decide +kernel)
set_option maxRecDepth 65536 in
theorem w_c12 : (Jvm.Cond.code ({ cls := "java/lang/StringUTF16", name := "compress", desc := "([CI[BII)I" } : Jvm.MethodName) jdk_52_method_21_code (7 : Nat) (Option.some Jvm.ClassFile.FieldType.int)).before args0 about1 = true := code_word (m := ⟨14, 3⟩) (meth := k14m3) (c := k14c3) (by decide +kernel) rfl rfl rfl (by decide +kernel)
set_option maxRecDepth 65536 in
theorem w_c13 : (Jvm.Cond.code ({ cls := "java/lang/StringUTF16", name := "coderFromArrayLen", desc := "([BI)B" } : Jvm.MethodName) jdk_52_method_15_code (2 : Nat) (Option.some Jvm.ClassFile.FieldType.byte)).before args0 about1 = true := code_word (m := ⟨14, 1⟩) (meth := k14m1) (c := k14c1) (by decide +kernel) rfl rfl rfl (by decide +kernel)
def codes1 : List Jvm.Cond := [Jvm.Cond.code x code maxLocals ret, Jvm.Cond.code ({ cls := "java/lang/Math", name := "min", desc := "(II)I" } : Jvm.MethodName) jdk_29_method_69_code (2 : Nat) (Option.some Jvm.ClassFile.FieldType.int), Jvm.Cond.code ({ cls := "com/example/tranche/tranche/DeliveryEqualsPinLaw", name := "mk", desc := "(ICC)Ljava/lang/String;" } : Jvm.MethodName) method_2_code (3 : Nat) (Option.some (Jvm.ClassFile.FieldType.object "java/lang/String")), Jvm.Cond.code ({ cls := "java/lang/String", name := "<init>", desc := "([C)V" } : Jvm.MethodName) jdk_42_method_3_code (2 : Nat) (Option.none : Option Jvm.ClassFile.FieldType), Jvm.Cond.code ({ cls := "java/lang/String", name := "<init>", desc := "([CIILjava/lang/Void;)V" } : Jvm.MethodName) jdk_42_method_149_code (6 : Nat) (Option.none : Option Jvm.ClassFile.FieldType), Jvm.Cond.code ({ cls := "java/lang/Object", name := "<init>", desc := "()V" } : Jvm.MethodName) object_method_1_code (1 : Nat) (Option.none : Option Jvm.ClassFile.FieldType), Jvm.Cond.code ({ cls := "com/example/tranche/tranche/Payout", name := "<init>", desc := "(Lcom/example/tranche/tranche/Payout$Kind;Ljava/lang/String;Ljava/lang/String;J)V" } : Jvm.MethodName) prog_9_method_1_code (6 : Nat) (Option.none : Option Jvm.ClassFile.FieldType), Jvm.Cond.code ({ cls := "com/example/tranche/tranche/Delivery", name := "<init>", desc := "(Ljava/lang/String;Lcom/example/tranche/tranche/Payout;I)V" } : Jvm.MethodName) prog_4_method_1_code (4 : Nat) (Option.none : Option Jvm.ClassFile.FieldType), Jvm.Cond.code ({ cls := "com/example/tranche/tranche/Delivery", name := "equals", desc := "(Ljava/lang/Object;)Z" } : Jvm.MethodName) prog_4_method_6_code (3 : Nat) (Option.some Jvm.ClassFile.FieldType.boolean), Jvm.Cond.code ({ cls := "java/lang/String", name := "equals", desc := "(Ljava/lang/Object;)Z" } : Jvm.MethodName) jdk_42_method_66_code (3 : Nat) (Option.some Jvm.ClassFile.FieldType.boolean), Jvm.Cond.code ({ cls := "java/lang/StringLatin1", name := "equals", desc := "([B[B)Z" } : Jvm.MethodName) jdk_43_method_13_code (3 : Nat) (Option.some Jvm.ClassFile.FieldType.boolean), Jvm.Cond.code ({ cls := "java/lang/StringUTF16", name := "compress", desc := "([CII)[B" } : Jvm.MethodName) jdk_52_method_16_code (6 : Nat) (Option.some (Jvm.ClassFile.FieldType.array Jvm.ClassFile.FieldType.byte)), Jvm.Cond.code ({ cls := "java/lang/StringUTF16", name := "compress", desc := "([CI[BII)I" } : Jvm.MethodName) jdk_52_method_21_code (7 : Nat) (Option.some Jvm.ClassFile.FieldType.int), Jvm.Cond.code ({ cls := "java/lang/StringUTF16", name := "coderFromArrayLen", desc := "([BI)B" } : Jvm.MethodName) jdk_52_method_15_code (2 : Nat) (Option.some Jvm.ClassFile.FieldType.byte)]
set_option maxRecDepth 65536 in
theorem codes_eq : words1.filter isCode = codes1 := rfl
theorem w_codes : ∀ c ∈ words1.filter isCode, c.before args0 about1 = true := by
  rw [codes_eq]
  intro c hc
  simp only [codes1, List.mem_cons, List.not_mem_nil, or_false] at hc
  rcases hc with rfl | rfl | rfl | rfl | rfl | rfl | rfl | rfl | rfl | rfl | rfl | rfl | rfl | rfl
  · exact w_c0
  · exact w_c1
  · exact w_c2
  · exact w_c3
  · exact w_c4
  · exact w_c5
  · exact w_c6
  · exact w_c7
  · exact w_c8
  · exact w_c9
  · exact w_c10
  · exact w_c11
  · exact w_c12
  · exact w_c13
set_option maxRecDepth 65536 in
theorem w_t1 : (words1.take 24).all (fun c => isCode c || c.before args0 about1) = true := by decide +kernel
set_option maxRecDepth 65536 in
theorem w_t2 : ((words1.drop 24).take 24).all (fun c => isCode c || c.before args0 about1) = true := by decide +kernel
set_option maxRecDepth 65536 in
theorem w_t3 : (((words1.drop 24).drop 24).take 24).all (fun c => isCode c || c.before args0 about1) = true := by decide +kernel
set_option maxRecDepth 65536 in
theorem w_t4 : (((words1.drop 24).drop 24).drop 24).all (fun c => isCode c || c.before args0 about1) = true := by decide +kernel
theorem w_tables : (allAtoms (Jvm.Cond.code x code maxLocals ret :: tables_1)).before args0 about1 = true := by
  rw [allAtoms_all]
  show words1.all (fun c => c.before args0 about1) = true
  refine all_split ?_ w_codes
  rw [← List.take_append_drop 24 words1, List.all_append, w_t1, ← List.take_append_drop 24 (words1.drop 24), List.all_append, w_t2, ← List.take_append_drop 24 ((words1.drop 24).drop 24), List.all_append, w_t3, w_t4]
  rfl
set_option maxRecDepth 65536 in
theorem w_rest : rest_1_c.before args0 about1 = true := by decide +kernel
set_option maxRecDepth 65536 in
theorem w_case : (Jvm.Cond.and given_1 narrow_1).before args0 about1 = true := by decide +kernel
set_option maxRecDepth 65536 in
theorem w_consts : constsHeld consts_1 about1 := Jvm.Lit.constsHeldB_iff.mp (by decide +kernel)
theorem w_applies : (headSpec (Jvm.Cond.code x code maxLocals ret :: tables_1) room_1).applies x e0.platform about1 = true :=
  (Spec.applies_iff w_frames).mpr ⟨w_running, w_runnable, w_alone, w_named, w_hears, w_ripe, w_room, w_tables⟩
theorem atStart : AtStart classFile x code maxLocals ret World_1 tables_1 room_1 Calls_1 rest_1 Pre_1 launch0 p0 e0 about1 theMethod args0 below0 :=
  ⟨lists_1, trivial, launch0.admits_env _ _ _, launch0.least_env, fairChoices_fair.cas, fairChoices_fair.clock, w_frames, w_args, w_heap, w_applies, ⟨w_consts, trivial⟩, w_rest, w_case⟩
end start1
theorem witness_1 : WitnessClaimed_1 := ⟨start1.p0, start1.e0, start1.about1, start1.theMethod, start1.args0, start1.below0, start1.atStart⟩
end Jvm.Pilot.@@N@@
