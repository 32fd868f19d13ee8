import JvmDerived
import JvmDerived.Pilot.@@N@@Statement
import JvmDerived.Pilot.@@N@@Code
set_option linter.unusedVariables false
set_option linter.unusedSimpArgs false
namespace Jvm.Own
open Jvm Jvm.ClassFile Sem Op Lib Jvm.Free Jvm.Stand Jvm.LawKit Jvm.RoadKit Bundle
/-! The walk's own layer: 'On' bears all that a walk knows of where it stands, 'Go' is what is left to show; one law an instruction, in the shape 'Go behind it gives Go ahead of it'. -/
abbrev Cx : Type := Program × Launch × Env × State × MethodId × Array Value × List Frame × Method × Code
abbrev Cx.p (C : Cx) : Program := C.1
abbrev Cx.l (C : Cx) : Launch := C.2.1
abbrev Cx.e (C : Cx) : Env := C.2.2.1
abbrev Cx.s (C : Cx) : State := C.2.2.2.1
abbrev Cx.m (C : Cx) : MethodId := C.2.2.2.2.1
abbrev Cx.args (C : Cx) : Array Value := C.2.2.2.2.2.1
abbrev Cx.below (C : Cx) : List Frame := C.2.2.2.2.2.2.1
abbrev Cx.meth (C : Cx) : Method := C.2.2.2.2.2.2.2.1
abbrev Cx.c (C : Cx) : Code := C.2.2.2.2.2.2.2.2
/-- an instruction of the body b -/
def Ins (b : ByteArray) (pc : Nat) (i : Instr) (len pc' : Nat) : Prop := decode b pc = .ok (i, len) ∧ pc + len = pc'
/-- where a branch goes -/
def Jmp (pc : Nat) (o : Int) (pc' : Nat) : Prop := 0 ≤ (pc : Int) + o ∧ ((pc : Int) + o).toNat = pc'
/-- the frame of an end -/
def EndQ (q : Bool) (s : State) (o : Outcome) (t : State) (L : List Loc) (k n : Nat) : Prop := ReturnedEndW s o t L k n ∧ (q = true → FrameEnd s o t L k n)
def On (C : Cx) (R : Room) (own : String) (b : ByteArray) (ml : Nat) (rt : Option FieldType) (nm : String) (q : Bool) (Z : State) (a0 : Array Value) (EL : List (String × Nat)) (n0 : Nat) (vm : Vm) (T : State) (h : Heap) (k n : Nat) : Prop :=
  (∃ (k0 : Nat) (locs : List Loc), Stand C.p C.l C.e R (C.s.setVm vm) C.m C.args C.below C.meth C.c T locs k n ∧ Fr n0 locs ∧ C.s.Since vm k0 ∧ k0 ≤ h.size) ∧ T.heap = h ∧ C.p.tables.exec = Jvm.exec ∧ C.c.code = b ∧ C.c.maxLocals = ml ∧ C.meth.sig.returnType = rt ∧ C.meth.name = nm ∧ C.meth.locks = false ∧
    Z.Warmed39 vm ∧ vm.findClass own = some C.m.cls ∧ EW Z a0 EL ∧ CHr Z EL C.s.vm C.s.heap vm h ∧ (q = true → C.s.WarmedH vm) ∧ Old Z n0 h
def Go (C : Cx) (R : Room) (q : Bool) (Z : State) (EL : List (String × Nat)) (n0 : Nat) (Q : Option Value → Heap → Prop) (T : State) (pc : Nat) (Ls : Array Slot) (st : List Value) : Prop :=
  ∃ s₂ o, Steps C.p.tables C.e C.below (T.setTop (mkF C.m pc Ls st)) s₂ ∧ s₂.status = .running ∧ Ended s₂ C.below o ∧ ∃ v L, o = .returned v ∧ (Q v s₂.heap ∧ Fr n0 L ∧ Old Z n0 s₂.heap) ∧ CHr Z EL C.s.vm C.s.heap s₂.vm s₂.heap ∧ EndQ q C.s o s₂ L R.cells R.slots
section Laws
variable {C : Cx} {R : Room} {own : String} {b : ByteArray} {ml : Nat} {rt : Option FieldType} {nm : String} {q : Bool} {Z : State} {a0 : Array Value} {EL : List (String × Nat)} {n0 : Nat} {vm : Vm} {T : State} {h : Heap} {k n : Nat} {Q : Option Value → Heap → Prop} {pc pc' pt : Nat} {Ls Ls' : Array Slot} {st : List Value}
theorem Go.of {T' : State} {Ls' : Array Slot} {st' : List Value} (f : ∀ t, Steps C.p.tables C.e C.below (T'.setTop (mkF C.m pc' Ls' st')) t → Steps C.p.tables C.e C.below (T.setTop (mkF C.m pc Ls st)) t) (g : Go C R q Z EL n0 Q T' pc' Ls' st') : Go C R q Z EL n0 Q T pc Ls st := by
  obtain ⟨s2, o, hs, r⟩ := g
  exact ⟨s2, o, f _ hs, r⟩
theorem On.here (X : On C R own b ml rt nm q Z a0 EL n0 vm T h k n) : At T C.m C.c C.below := by
  obtain ⟨⟨_, _, S, -⟩, -⟩ := X; exact S.here
theorem On.exec (X : On C R own b ml rt nm q Z a0 EL n0 vm T h k n) : C.p.tables.exec = Jvm.exec := X.2.2.1
theorem On.dec (X : On C R own b ml rt nm q Z a0 EL n0 vm T h k n) {i : Instr} {len : Nat} (hi : Ins b pc i len pc') : decode C.c.code pc = .ok (i, len) := by rw [X.2.2.2.1]; exact hi.1
theorem On.zw (X : On C R own b ml rt nm q Z a0 EL n0 vm T h k n) : Z.Warmed39 vm := X.2.2.2.2.2.2.2.2.1
theorem On.owned (X : On C R own b ml rt nm q Z a0 EL n0 vm T h k n) : vm.findClass own = some C.m.cls := X.2.2.2.2.2.2.2.2.2.1
theorem On.ew (X : On C R own b ml rt nm q Z a0 EL n0 vm T h k n) : EW Z a0 EL := X.2.2.2.2.2.2.2.2.2.2.1
theorem On.chr (X : On C R own b ml rt nm q Z a0 EL n0 vm T h k n) : CHr Z EL C.s.vm C.s.heap vm h := X.2.2.2.2.2.2.2.2.2.2.2.1
theorem On.chv (X : On C R own b ml rt nm q Z a0 EL n0 vm T h k n) : CHv Z EL vm h := X.chr.1
theorem On.warm (X : On C R own b ml rt nm q Z a0 EL n0 vm T h k n) : q = true → C.s.WarmedH vm := X.2.2.2.2.2.2.2.2.2.2.2.2.1
theorem On.old (X : On C R own b ml rt nm q Z a0 EL n0 vm T h k n) : Old Z n0 h := X.2.2.2.2.2.2.2.2.2.2.2.2.2
theorem On.n0le (X : On C R own b ml rt nm q Z a0 EL n0 vm T h k n) : n0 ≤ h.size := X.old.1 ▸ X.old.2.1
theorem On.ext0 (X : On C R own b ml rt nm q Z a0 EL n0 vm T h k n) : Ext Z.heap h := X.old.2
theorem On.eT (X : On C R own b ml rt nm q Z a0 EL n0 vm T h k n) : T.heap = h := X.2.1
theorem On.put (X : On C R own b ml rt nm q Z a0 EL n0 vm T h k n) {T' : State} {h' : Heap} {k' n' k0 : Nat} {locs' : List Loc} (S' : Stand C.p C.l C.e R (C.s.setVm vm) C.m C.args C.below C.meth C.c T' locs' k' n') (N' : Fr n0 locs') (hS : C.s.Since vm k0) (hk : k0 ≤ h.size)
    (e' : T'.heap = h') (hc : CHr Z EL vm h vm h') (hO : Old Z n0 h') : On C R own b ml rt nm q Z a0 EL n0 vm T' h' k' n' := by
  obtain ⟨-, -, e2, e3, e4, e5, e6, e7, e8, e9, e10, e11, e12, e13⟩ := X
  exact ⟨⟨k0, locs', S', N', hS, Nat.le_trans hk hc.2.1⟩, e', e2, e3, e4, e5, e6, e7, e8, e9, e10, e11.trans hc, e12, hO⟩
theorem On.more (X : On C R own b ml rt nm q Z a0 EL n0 vm T h k n) {k' n' : Nat} (hk : k ≤ k') (hn : n ≤ n') : On C R own b ml rt nm q Z a0 EL n0 vm T h k' n' := by
  obtain ⟨⟨k0, locs, S, N, hS, hk0⟩, -⟩ := id X
  exact X.put (S.more hk hn) N hS hk0 X.eT (CHr.refl X.chv) X.old
/-! ### plain steps -/
theorem On.aload_n (X : On C R own b ml rt nm q Z a0 EL n0 vm T h k n) {j : Fin 4} {v : Value} (hi : Ins b pc (.aload_n j) 1 pc') (hl : Ls[j.val]? = some (.val v)) (hv : v.isRef = true) (g : Go C R q Z EL n0 Q T pc' Ls (v :: st)) : Go C R q Z EL n0 Q T pc Ls st := by
  obtain ⟨-, rfl⟩ := id hi; exact Go.of (fun t z => XS.aloadN X.here X.exec rfl (X.dec hi) hl hv z) g
theorem On.aload (X : On C R own b ml rt nm q Z a0 EL n0 vm T h k n) {j : Nat} {v : Value} (hi : Ins b pc (.aload j) 2 pc') (hl : Ls[j]? = some (.val v)) (hv : v.isRef = true) (g : Go C R q Z EL n0 Q T pc' Ls (v :: st)) : Go C R q Z EL n0 Q T pc Ls st := by
  obtain ⟨-, rfl⟩ := id hi; exact Go.of (fun t z => XS.aload X.here X.exec rfl (X.dec hi) hl hv z) g
theorem On.iload_n (X : On C R own b ml rt nm q Z a0 EL n0 vm T h k n) {j : Fin 4} {v : Int32} (hi : Ins b pc (.iload_n j) 1 pc') (hl : Ls[j.val]? = some (.val (.int v))) (g : Go C R q Z EL n0 Q T pc' Ls (.int v :: st)) : Go C R q Z EL n0 Q T pc Ls st := by
  obtain ⟨-, rfl⟩ := id hi; exact Go.of (fun t z => XS.iloadN X.here X.exec rfl (X.dec hi) hl z) g
theorem On.iload (X : On C R own b ml rt nm q Z a0 EL n0 vm T h k n) {j : Nat} {v : Int32} (hi : Ins b pc (.iload j) 2 pc') (hl : Ls[j]? = some (.val (.int v))) (g : Go C R q Z EL n0 Q T pc' Ls (.int v :: st)) : Go C R q Z EL n0 Q T pc Ls st := by
  obtain ⟨-, rfl⟩ := id hi; exact Go.of (fun t z => XS.iload X.here X.exec rfl (X.dec hi) hl z) g
theorem On.lload_n (X : On C R own b ml rt nm q Z a0 EL n0 vm T h k n) {j : Fin 4} {v : Int64} (hi : Ins b pc (.lload_n j) 1 pc') (hl : Ls[j.val]? = some (.val (.long v))) (g : Go C R q Z EL n0 Q T pc' Ls (.long v :: st)) : Go C R q Z EL n0 Q T pc Ls st := by
  obtain ⟨-, rfl⟩ := id hi; exact Go.of (fun t z => XS.lloadN X.here X.exec rfl (X.dec hi) hl z) g
theorem On.lload (X : On C R own b ml rt nm q Z a0 EL n0 vm T h k n) {j : Nat} {v : Int64} (hi : Ins b pc (.lload j) 2 pc') (hl : Ls[j]? = some (.val (.long v))) (g : Go C R q Z EL n0 Q T pc' Ls (.long v :: st)) : Go C R q Z EL n0 Q T pc Ls st := by
  obtain ⟨-, rfl⟩ := id hi; exact Go.of (fun t z => XS.lload X.here X.exec rfl (X.dec hi) hl z) g
theorem On.iconst (X : On C R own b ml rt nm q Z a0 EL n0 vm T h k n) {i : Int} {z : Int32} (hi : Ins b pc (.iconst i) 1 pc') (hz : Int32.ofInt i = z) (g : Go C R q Z EL n0 Q T pc' Ls (.int z :: st)) : Go C R q Z EL n0 Q T pc Ls st := by
  subst hz; obtain ⟨-, rfl⟩ := id hi; exact Go.of (fun t z => XS.iconst X.here X.exec rfl (X.dec hi) z) g
theorem On.bipush (X : On C R own b ml rt nm q Z a0 EL n0 vm T h k n) {i : Int} {z : Int32} (hi : Ins b pc (.bipush i) 2 pc') (hz : (Int8.ofInt i).toInt32 = z) (g : Go C R q Z EL n0 Q T pc' Ls (.int z :: st)) : Go C R q Z EL n0 Q T pc Ls st := by
  subst hz; obtain ⟨-, rfl⟩ := id hi; exact Go.of (fun t z => XS.bipush X.here X.exec rfl (X.dec hi) z) g
theorem On.sipush (X : On C R own b ml rt nm q Z a0 EL n0 vm T h k n) {i : Int} {z : Int32} (hi : Ins b pc (.sipush i) 3 pc') (hz : (Int16.ofInt i).toInt32 = z) (g : Go C R q Z EL n0 Q T pc' Ls (.int z :: st)) : Go C R q Z EL n0 Q T pc Ls st := by
  subst hz; obtain ⟨-, rfl⟩ := id hi; exact Go.of (fun t z => XS.sipush X.here X.exec rfl (X.dec hi) z) g
theorem On.lconst (X : On C R own b ml rt nm q Z a0 EL n0 vm T h k n) {i : Fin 2} {z : Int64} (hi : Ins b pc (.lconst i) 1 pc') (hz : Int64.ofNat i = z) (g : Go C R q Z EL n0 Q T pc' Ls (.long z :: st)) : Go C R q Z EL n0 Q T pc Ls st := by
  subst hz; obtain ⟨-, rfl⟩ := id hi; exact Go.of (fun t z => XS.lconst X.here X.exec rfl (X.dec hi) z) g
theorem On.aconst_null (X : On C R own b ml rt nm q Z a0 EL n0 vm T h k n) (hi : Ins b pc .aconst_null 1 pc') (g : Go C R q Z EL n0 Q T pc' Ls (.null :: st)) : Go C R q Z EL n0 Q T pc Ls st := by
  obtain ⟨-, rfl⟩ := id hi; exact Go.of (fun t z => XS.aconstNull X.here X.exec rfl (X.dec hi) z) g
theorem On.istore_n (X : On C R own b ml rt nm q Z a0 EL n0 vm T h k n) {j : Fin 4} {x : Int32} (hi : Ins b pc (.istore_n j) 1 pc') (hl : storeLocals Ls j.val (.int x) = some Ls') (g : Go C R q Z EL n0 Q T pc' Ls' st) : Go C R q Z EL n0 Q T pc Ls (.int x :: st) := by
  obtain ⟨-, rfl⟩ := id hi; exact Go.of (fun t z => XS.istoreN X.here X.exec rfl (X.dec hi) rfl hl z) g
theorem On.istore (X : On C R own b ml rt nm q Z a0 EL n0 vm T h k n) {j : Nat} {x : Int32} (hi : Ins b pc (.istore j) 2 pc') (hl : storeLocals Ls j (.int x) = some Ls') (g : Go C R q Z EL n0 Q T pc' Ls' st) : Go C R q Z EL n0 Q T pc Ls (.int x :: st) := by
  obtain ⟨-, rfl⟩ := id hi; exact Go.of (fun t z => XS.istore X.here X.exec rfl (X.dec hi) rfl hl z) g
theorem On.lstore_n (X : On C R own b ml rt nm q Z a0 EL n0 vm T h k n) {j : Fin 4} {x : Int64} (hi : Ins b pc (.lstore_n j) 1 pc') (hl : storeLocals Ls j.val (.long x) = some Ls') (g : Go C R q Z EL n0 Q T pc' Ls' st) : Go C R q Z EL n0 Q T pc Ls (.long x :: st) := by
  obtain ⟨-, rfl⟩ := id hi; exact Go.of (fun t z => XS.lstoreN X.here X.exec rfl (X.dec hi) rfl hl z) g
theorem On.astore_n (X : On C R own b ml rt nm q Z a0 EL n0 vm T h k n) {j : Fin 4} {x : Value} (hi : Ins b pc (.astore_n j) 1 pc') (hv : x.isRef = true) (hl : storeLocals Ls j.val x = some Ls') (g : Go C R q Z EL n0 Q T pc' Ls' st) : Go C R q Z EL n0 Q T pc Ls (x :: st) := by
  obtain ⟨-, rfl⟩ := id hi; exact Go.of (fun t z => XS.astoreN X.here X.exec rfl (X.dec hi) rfl hv hl z) g
theorem On.astore (X : On C R own b ml rt nm q Z a0 EL n0 vm T h k n) {j : Nat} {x : Value} (hi : Ins b pc (.astore j) 2 pc') (hv : x.isRef = true) (hl : storeLocals Ls j x = some Ls') (g : Go C R q Z EL n0 Q T pc' Ls' st) : Go C R q Z EL n0 Q T pc Ls (x :: st) := by
  obtain ⟨-, rfl⟩ := id hi; exact Go.of (fun t z => XS.astore X.here X.exec rfl (X.dec hi) rfl hv hl z) g
theorem On.iinc (X : On C R own b ml rt nm q Z a0 EL n0 vm T h k n) {j : Nat} {cst : Int} {x y : Int32} (hi : Ins b pc (.iinc j cst) 3 pc') (hl : Ls[j]? = some (.val (.int x))) (hz : x + Int32.ofInt cst = y) (hl' : storeLocals Ls j (.int y) = some Ls') (g : Go C R q Z EL n0 Q T pc' Ls' st) : Go C R q Z EL n0 Q T pc Ls st := by
  subst hz; obtain ⟨-, rfl⟩ := id hi; exact Go.of (fun t z => XS.iinc X.here X.exec rfl (X.dec hi) hl hl' z) g
theorem On.dup (X : On C R own b ml rt nm q Z a0 EL n0 vm T h k n) {x : Value} (hi : Ins b pc .dup 1 pc') (hc : x.category = 1) (g : Go C R q Z EL n0 Q T pc' Ls (x :: x :: st)) : Go C R q Z EL n0 Q T pc Ls (x :: st) := by
  obtain ⟨-, rfl⟩ := id hi; exact Go.of (fun t z => XS.dup X.here X.exec rfl (X.dec hi) rfl hc z) g
theorem On.dup_x1 (X : On C R own b ml rt nm q Z a0 EL n0 vm T h k n) {x y : Value} (hi : Ins b pc .dup_x1 1 pc') (hc : x.category = 1) (hc' : y.category = 1) (g : Go C R q Z EL n0 Q T pc' Ls (x :: y :: x :: st)) : Go C R q Z EL n0 Q T pc Ls (x :: y :: st) := by
  obtain ⟨-, rfl⟩ := id hi; exact Go.of (fun t z => XS.dupX1 X.here X.exec rfl (X.dec hi) rfl hc hc' z) g
theorem On.dup2 (X : On C R own b ml rt nm q Z a0 EL n0 vm T h k n) {x y : Value} (hi : Ins b pc .dup2 1 pc') (hc : x.category = 1) (hc' : y.category = 1) (g : Go C R q Z EL n0 Q T pc' Ls (x :: y :: x :: y :: st)) : Go C R q Z EL n0 Q T pc Ls (x :: y :: st) := by
  obtain ⟨-, rfl⟩ := id hi; exact Go.of (fun t z => XT.dup2 X.here X.exec rfl (X.dec hi) rfl hc hc' z) g
theorem On.pop (X : On C R own b ml rt nm q Z a0 EL n0 vm T h k n) {x : Value} (hi : Ins b pc .pop 1 pc') (hc : x.category = 1) (g : Go C R q Z EL n0 Q T pc' Ls st) : Go C R q Z EL n0 Q T pc Ls (x :: st) := by
  obtain ⟨-, rfl⟩ := id hi; exact Go.of (fun t z => XS.pop X.here X.exec rfl (X.dec hi) rfl hc z) g
theorem On.iadd (X : On C R own b ml rt nm q Z a0 EL n0 vm T h k n) {x y z : Int32} (hi : Ins b pc .iadd 1 pc') (hz : x + y = z) (g : Go C R q Z EL n0 Q T pc' Ls (.int z :: st)) : Go C R q Z EL n0 Q T pc Ls (.int y :: .int x :: st) := by
  subst hz; obtain ⟨-, rfl⟩ := id hi; exact Go.of (fun t z => XS.iadd X.here X.exec rfl (X.dec hi) rfl z) g
theorem On.isub (X : On C R own b ml rt nm q Z a0 EL n0 vm T h k n) {x y z : Int32} (hi : Ins b pc .isub 1 pc') (hz : x - y = z) (g : Go C R q Z EL n0 Q T pc' Ls (.int z :: st)) : Go C R q Z EL n0 Q T pc Ls (.int y :: .int x :: st) := by
  subst hz; obtain ⟨-, rfl⟩ := id hi; exact Go.of (fun t z => XS.isub X.here X.exec rfl (X.dec hi) rfl z) g
theorem On.imul (X : On C R own b ml rt nm q Z a0 EL n0 vm T h k n) {x y z : Int32} (hi : Ins b pc .imul 1 pc') (hz : x * y = z) (g : Go C R q Z EL n0 Q T pc' Ls (.int z :: st)) : Go C R q Z EL n0 Q T pc Ls (.int y :: .int x :: st) := by
  subst hz; obtain ⟨-, rfl⟩ := id hi; exact Go.of (fun t z => XS.imul X.here X.exec rfl (X.dec hi) rfl z) g
theorem On.iand (X : On C R own b ml rt nm q Z a0 EL n0 vm T h k n) {x y z : Int32} (hi : Ins b pc .iand 1 pc') (hz : x &&& y = z) (g : Go C R q Z EL n0 Q T pc' Ls (.int z :: st)) : Go C R q Z EL n0 Q T pc Ls (.int y :: .int x :: st) := by
  subst hz; obtain ⟨-, rfl⟩ := id hi; exact Go.of (fun t z => XS.iand X.here X.exec rfl (X.dec hi) rfl z) g
theorem On.ior (X : On C R own b ml rt nm q Z a0 EL n0 vm T h k n) {x y z : Int32} (hi : Ins b pc .ior 1 pc') (hz : x ||| y = z) (g : Go C R q Z EL n0 Q T pc' Ls (.int z :: st)) : Go C R q Z EL n0 Q T pc Ls (.int y :: .int x :: st) := by
  subst hz; obtain ⟨-, rfl⟩ := id hi; exact Go.of (fun t z => XS.ior X.here X.exec rfl (X.dec hi) rfl z) g
theorem On.ixor (X : On C R own b ml rt nm q Z a0 EL n0 vm T h k n) {x y z : Int32} (hi : Ins b pc .ixor 1 pc') (hz : x ^^^ y = z) (g : Go C R q Z EL n0 Q T pc' Ls (.int z :: st)) : Go C R q Z EL n0 Q T pc Ls (.int y :: .int x :: st) := by
  subst hz; obtain ⟨-, rfl⟩ := id hi; exact Go.of (fun t z => XS.ixor X.here X.exec rfl (X.dec hi) rfl z) g
theorem On.ishl (X : On C R own b ml rt nm q Z a0 EL n0 vm T h k n) {x y z : Int32} (hi : Ins b pc .ishl 1 pc') (hz : x <<< (y &&& 31) = z) (g : Go C R q Z EL n0 Q T pc' Ls (.int z :: st)) : Go C R q Z EL n0 Q T pc Ls (.int y :: .int x :: st) := by
  subst hz; obtain ⟨-, rfl⟩ := id hi; exact Go.of (fun t z => XS.ishl X.here X.exec rfl (X.dec hi) rfl z) g
theorem On.ishr (X : On C R own b ml rt nm q Z a0 EL n0 vm T h k n) {x y z : Int32} (hi : Ins b pc .ishr 1 pc') (hz : x >>> (y &&& 31) = z) (g : Go C R q Z EL n0 Q T pc' Ls (.int z :: st)) : Go C R q Z EL n0 Q T pc Ls (.int y :: .int x :: st) := by
  subst hz; obtain ⟨-, rfl⟩ := id hi; exact Go.of (fun t z => XS.ishr X.here X.exec rfl (X.dec hi) rfl z) g
theorem On.iushr (X : On C R own b ml rt nm q Z a0 EL n0 vm T h k n) {x y z : Int32} (hi : Ins b pc .iushr 1 pc') (hz : (x.toUInt32 >>> (y &&& 31).toUInt32).toInt32 = z) (g : Go C R q Z EL n0 Q T pc' Ls (.int z :: st)) : Go C R q Z EL n0 Q T pc Ls (.int y :: .int x :: st) := by
  subst hz; obtain ⟨-, rfl⟩ := id hi; exact Go.of (fun t z => XS.iushr X.here X.exec rfl (X.dec hi) rfl z) g
theorem On.irem (X : On C R own b ml rt nm q Z a0 EL n0 vm T h k n) {x y z : Int32} (hi : Ins b pc .irem 1 pc') (hy : y ≠ 0) (hz : x % y = z) (g : Go C R q Z EL n0 Q T pc' Ls (.int z :: st)) : Go C R q Z EL n0 Q T pc Ls (.int y :: .int x :: st) := by
  subst hz; obtain ⟨-, rfl⟩ := id hi
  obtain ⟨⟨k0, locs, S, -⟩, -⟩ := id X
  exact Go.of (fun t z => iremM S X.exec rfl (X.dec hi) rfl hy z) g
theorem On.idiv (X : On C R own b ml rt nm q Z a0 EL n0 vm T h k n) {x y z : Int32} (hi : Ins b pc .idiv 1 pc') (hy : y ≠ 0) (hz : x / y = z) (g : Go C R q Z EL n0 Q T pc' Ls (.int z :: st)) : Go C R q Z EL n0 Q T pc Ls (.int y :: .int x :: st) := by
  subst hz; obtain ⟨-, rfl⟩ := id hi; exact Go.of (fun t z => XS.idiv X.here X.exec rfl (X.dec hi) rfl hy z) g
theorem On.i2c (X : On C R own b ml rt nm q Z a0 EL n0 vm T h k n) {x z : Int32} (hi : Ins b pc .i2c 1 pc') (hz : x.toUInt32.toUInt16.toUInt32.toInt32 = z) (g : Go C R q Z EL n0 Q T pc' Ls (.int z :: st)) : Go C R q Z EL n0 Q T pc Ls (.int x :: st) := by
  subst hz; obtain ⟨-, rfl⟩ := id hi; exact Go.of (fun t z => XS.i2c X.here X.exec rfl (X.dec hi) rfl z) g
theorem On.i2b (X : On C R own b ml rt nm q Z a0 EL n0 vm T h k n) {x z : Int32} (hi : Ins b pc .i2b 1 pc') (hz : x.toInt8.toInt32 = z) (g : Go C R q Z EL n0 Q T pc' Ls (.int z :: st)) : Go C R q Z EL n0 Q T pc Ls (.int x :: st) := by
  subst hz; obtain ⟨-, rfl⟩ := id hi; exact Go.of (fun t z => XS.i2b X.here X.exec rfl (X.dec hi) rfl z) g
theorem On.i2l (X : On C R own b ml rt nm q Z a0 EL n0 vm T h k n) {x : Int32} {z : Int64} (hi : Ins b pc .i2l 1 pc') (hz : x.toInt64 = z) (g : Go C R q Z EL n0 Q T pc' Ls (.long z :: st)) : Go C R q Z EL n0 Q T pc Ls (.int x :: st) := by
  subst hz; obtain ⟨-, rfl⟩ := id hi; exact Go.of (fun t z => XS.i2l X.here X.exec rfl (X.dec hi) rfl z) g
theorem On.l2i (X : On C R own b ml rt nm q Z a0 EL n0 vm T h k n) {x : Int64} {z : Int32} (hi : Ins b pc .l2i 1 pc') (hz : x.toInt32 = z) (g : Go C R q Z EL n0 Q T pc' Ls (.int z :: st)) : Go C R q Z EL n0 Q T pc Ls (.long x :: st) := by
  subst hz; obtain ⟨-, rfl⟩ := id hi; exact Go.of (fun t z => XS.l2i X.here X.exec rfl (X.dec hi) rfl z) g
theorem On.ladd (X : On C R own b ml rt nm q Z a0 EL n0 vm T h k n) {x y z : Int64} (hi : Ins b pc .ladd 1 pc') (hz : x + y = z) (g : Go C R q Z EL n0 Q T pc' Ls (.long z :: st)) : Go C R q Z EL n0 Q T pc Ls (.long y :: .long x :: st) := by
  subst hz; obtain ⟨-, rfl⟩ := id hi; exact Go.of (fun t z => XS.ladd X.here X.exec rfl (X.dec hi) rfl z) g
theorem On.lcmp (X : On C R own b ml rt nm q Z a0 EL n0 vm T h k n) {x y : Int64} {z : Int32} (hi : Ins b pc .lcmp 1 pc') (hz : lcmpW x y = z) (g : Go C R q Z EL n0 Q T pc' Ls (.int z :: st)) : Go C R q Z EL n0 Q T pc Ls (.long y :: .long x :: st) := by
  subst hz; obtain ⟨-, rfl⟩ := id hi; exact Go.of (fun t z => XS.lcmp X.here X.exec rfl (X.dec hi) rfl z) g
theorem On.goto (X : On C R own b ml rt nm q Z a0 EL n0 vm T h k n) {o : Int} (hi : Ins b pc (.goto o) 3 pc') (hj : Jmp pc o pt) (g : Go C R q Z EL n0 Q T pt Ls st) : Go C R q Z EL n0 Q T pc Ls st :=
  Go.of (fun t z => XS.goto X.here X.exec rfl rfl (X.dec hi) hj.1 hj.2 z) g
theorem On.ifY (X : On C R own b ml rt nm q Z a0 EL n0 vm T h k n) {cd : ClassFile.Cond} {o : Int} {x : Int32} (hi : Ins b pc (.ifCond cd o) 3 pc') (hj : Jmp pc o pt) (hc : ifCond.holds cd x = true) (g : Go C R q Z EL n0 Q T pt Ls st) : Go C R q Z EL n0 Q T pc Ls (.int x :: st) :=
  Go.of (fun t z => XS.ifYes X.here X.exec rfl rfl (X.dec hi) rfl hc hj.1 hj.2 z) g
theorem On.ifN (X : On C R own b ml rt nm q Z a0 EL n0 vm T h k n) {cd : ClassFile.Cond} {o : Int} {x : Int32} (hi : Ins b pc (.ifCond cd o) 3 pc') (hc : ifCond.holds cd x = false) (g : Go C R q Z EL n0 Q T pc' Ls st) : Go C R q Z EL n0 Q T pc Ls (.int x :: st) := by
  obtain ⟨-, rfl⟩ := id hi; exact Go.of (fun t z => XS.ifNo X.here X.exec rfl (X.dec hi) rfl hc z) g
theorem On.icY (X : On C R own b ml rt nm q Z a0 EL n0 vm T h k n) {cd : ClassFile.Cond} {o : Int} {x y : Int32} (hi : Ins b pc (.if_icmp cd o) 3 pc') (hj : Jmp pc o pt) (hc : if_icmp.holds cd x y = true) (g : Go C R q Z EL n0 Q T pt Ls st) : Go C R q Z EL n0 Q T pc Ls (.int y :: .int x :: st) :=
  Go.of (fun t z => XS.icmpYes X.here X.exec rfl rfl (X.dec hi) rfl hc hj.1 hj.2 z) g
theorem On.icN (X : On C R own b ml rt nm q Z a0 EL n0 vm T h k n) {cd : ClassFile.Cond} {o : Int} {x y : Int32} (hi : Ins b pc (.if_icmp cd o) 3 pc') (hc : if_icmp.holds cd x y = false) (g : Go C R q Z EL n0 Q T pc' Ls st) : Go C R q Z EL n0 Q T pc Ls (.int y :: .int x :: st) := by
  obtain ⟨-, rfl⟩ := id hi; exact Go.of (fun t z => XS.icmpNo X.here X.exec rfl (X.dec hi) rfl hc z) g
theorem On.nullY (X : On C R own b ml rt nm q Z a0 EL n0 vm T h k n) {o : Int} (hi : Ins b pc (.ifnull o) 3 pc') (hj : Jmp pc o pt) (g : Go C R q Z EL n0 Q T pt Ls st) : Go C R q Z EL n0 Q T pc Ls (.null :: st) :=
  Go.of (fun t z => XS.ifnullYes X.here X.exec rfl rfl (X.dec hi) rfl hj.1 hj.2 z) g
theorem On.nullN (X : On C R own b ml rt nm q Z a0 EL n0 vm T h k n) {o : Int} {a : Addr} (hi : Ins b pc (.ifnull o) 3 pc') (g : Go C R q Z EL n0 Q T pc' Ls st) : Go C R q Z EL n0 Q T pc Ls (.ref a :: st) := by
  obtain ⟨-, rfl⟩ := id hi; exact Go.of (fun t z => XS.ifnullNo X.here X.exec rfl (X.dec hi) rfl z) g
theorem On.nonnullY (X : On C R own b ml rt nm q Z a0 EL n0 vm T h k n) {o : Int} {a : Addr} (hi : Ins b pc (.ifnonnull o) 3 pc') (hj : Jmp pc o pt) (g : Go C R q Z EL n0 Q T pt Ls st) : Go C R q Z EL n0 Q T pc Ls (.ref a :: st) :=
  Go.of (fun t z => XS.ifnonnullYes X.here X.exec rfl rfl (X.dec hi) rfl hj.1 hj.2 z) g
theorem On.nonnullN (X : On C R own b ml rt nm q Z a0 EL n0 vm T h k n) {o : Int} (hi : Ins b pc (.ifnonnull o) 3 pc') (g : Go C R q Z EL n0 Q T pc' Ls st) : Go C R q Z EL n0 Q T pc Ls (.null :: st) := by
  obtain ⟨-, rfl⟩ := id hi; exact Go.of (fun t z => XS.ifnonnullNo X.here X.exec rfl (X.dec hi) rfl z) g
theorem On.acY (X : On C R own b ml rt nm q Z a0 EL n0 vm T h k n) {cd : ACond} {o : Int} {x y : Value} (hi : Ins b pc (.if_acmp cd o) 3 pc') (hj : Jmp pc o pt) (hx' : x.isRef = true) (hy' : y.isRef = true) (hc : XT.acmp cd x y = true) (g : Go C R q Z EL n0 Q T pt Ls st) : Go C R q Z EL n0 Q T pc Ls (y :: x :: st) :=
  Go.of (fun t z => XT.acmpYes X.here X.exec rfl rfl (X.dec hi) rfl hx' hy' hc hj.1 hj.2 z) g
theorem On.acN (X : On C R own b ml rt nm q Z a0 EL n0 vm T h k n) {cd : ACond} {o : Int} {x y : Value} (hi : Ins b pc (.if_acmp cd o) 3 pc') (hx' : x.isRef = true) (hy' : y.isRef = true) (hc : XT.acmp cd x y = false) (g : Go C R q Z EL n0 Q T pc' Ls st) : Go C R q Z EL n0 Q T pc Ls (y :: x :: st) := by
  obtain ⟨-, rfl⟩ := id hi; exact Go.of (fun t z => XT.acmpNo X.here X.exec rfl (X.dec hi) rfl hx' hy' hc z) g
end Laws
end Jvm.Own
namespace Jvm.Own
open Jvm Jvm.ClassFile Sem Op Lib Jvm.Free Jvm.Stand Jvm.LawKit Jvm.RoadKit Bundle
/-! ### steps that read or write the heap or the tables -/
section Heap
variable {C : Cx} {R : Room} {own : String} {b : ByteArray} {ml : Nat} {rt : Option FieldType} {nm : String} {q : Bool} {Z : State} {a0 : Array Value} {EL : List (String × Nat)} {n0 : Nat} {vm : Vm} {T : State} {h : Heap} {k n : Nat} {Q : Option Value → Heap → Prop} {pc pc' pt : Nat} {Ls Ls' : Array Slot} {st : List Value}
theorem On.getfield (X : On C R own b ml rt nm q Z a0 EL n0 vm T h k n) {R0 O f d : String} {ix : Nat} {a : Addr} {v : Value} (hi : Ins b pc (.getfield ix) 3 pc') (w : (Cond.fieldLink own ix R0 f d).before a0 Z = true) (via : Via Z R0 O f d) (F : Fld Z h a O f d v)
    (g : ∀ T', On C R own b ml rt nm q Z a0 EL n0 vm T' h k n → Go C R q Z EL n0 Q T' pc' Ls (v :: st)) : Go C R q Z EL n0 Q T pc Ls (.ref a :: st) := by
  obtain ⟨-, rfl⟩ := id hi
  obtain ⟨⟨k0, locs, S, N, hS, hk⟩, -⟩ := id X
  obtain ⟨T', S', e', st'⟩ := getF S X.exec X.zw X.owned (host := "") (Or.inl w) via X.eT F (g := mkF C.m pc Ls (.ref a :: st)) rfl rfl (X.dec hi)
  exact Go.of st' (g T' (X.put S' N hS hk e' (CHr.refl X.chv) X.old))
theorem On.getstatic (X : On C R own b ml rt nm q Z a0 EL n0 vm T h k n) {R0 O f d : String} {ix : Nat} {v : Value} (hi : Ins b pc (.getstatic ix) 3 pc') (w : (Cond.fieldLink own ix R0 f d).before a0 Z = true) (via : Via Z R0 O f d) (F : Sta Z h O f d v)
    (g : ∀ T', On C R own b ml rt nm q Z a0 EL n0 vm T' h k n → Go C R q Z EL n0 Q T' pc' Ls (v :: st)) : Go C R q Z EL n0 Q T pc Ls st := by
  obtain ⟨-, rfl⟩ := id hi
  obtain ⟨⟨k0, locs, S, N, hS, hk⟩, -⟩ := id X
  obtain ⟨T', S', e', st'⟩ := getS (host := "") S X.exec X.zw X.owned w via X.eT F (g := mkF C.m pc Ls st) rfl (X.dec hi)
  exact Go.of st' (g T' (X.put S' N hS hk e' (CHr.refl X.chv) X.old))
/-- Ext behind a write to a place that is new since -/
theorem ext_wr {h1 h2 h3 : Heap} {a : Addr} {sl : Nat} {v : Value} (E : Ext h1 h2) (W : Wr h2 h3 a sl v) (ha : h1.size ≤ a) : Ext h1 h3 :=
  ⟨Nat.le_trans E.1 (Nat.le_of_eq W.size.symm), fun x c hx => by
    obtain ⟨c', e1, -, -, -, e5, -⟩ := wr_at W (E.2 x c hx)
    rw [e1, e5 fun q => absurd (Array.getElem?_eq_some_iff.mp hx).1 (Nat.not_lt.mpr (q ▸ ha))]⟩
theorem ext_keep {h1 h2 h3 : Heap} {ws : List Addr} (E : Ext h1 h2) (K : Keep h2 h3 ws) (ha : ∀ x ∈ ws, h1.size ≤ x) : Ext h1 h3 :=
  ⟨Nat.le_trans E.1 K.1, fun x c hx => K.2.1 x c (E.2 x c hx) fun hm => absurd (Array.getElem?_eq_some_iff.mp hx).1 (Nat.not_lt.mpr (ha x hm))⟩
theorem ext_refl (h1 : Heap) : Ext h1 h1 := ⟨Nat.le_refl _, fun _ _ q => q⟩
theorem ext_trans {h1 h2 h3 : Heap} (E : Ext h1 h2) (E' : Ext h2 h3) : Ext h1 h3 := ⟨Nat.le_trans E.1 E'.1, fun x c q => E'.2 x c (E.2 x c q)⟩
theorem keep_ext {h1 h2 : Heap} (E : Ext h1 h2) : Keep h1 h2 [] := (Keep.refl h1 []).ext E
theorem ext_of_keep {h1 h2 : Heap} (K : Keep h1 h2 []) : Ext h1 h2 := ⟨K.1, fun x c q => K.2.1 x c q (fun z => nomatch z)⟩
/-- the general put: the field's laid word either way -/
theorem On.putfield (X : On C R own b ml rt nm q Z a0 EL n0 vm T h k n) {R0 O f d Cl : String} {ix kk : Nat} {a : Addr} {v old : Value} {ty : FieldType} (hi : Ins b pc (.putfield ix) 3 pc') (w : (Cond.fieldLink own ix R0 f d).before a0 Z = true) (via : Via Z R0 O f d) (F : Fld Z h a O f d old) (E : Exa Z h a Cl)
    (L : (Cond.lays Cl O f d).before a0 Z = true ∨ ((Cond.laysFinal Cl O f d).before a0 Z = true ∧ own = O ∧ nm = "<init>")) (wi : (Cond.instantiable Cl kk).before a0 Z = true) (hty : parseFieldDescriptor d = some ty) (hn : narrow ty v = v) (hf : fits ty v = true) (ga : n0 ≤ a) (Sf : Safe Z EL vm h a)
    (g : ∀ T' h', On C R own b ml rt nm q Z a0 EL n0 vm T' h' k n → Wr h h' a (RoadKit.slotOf Z O f d) v → Go C R q Z EL n0 Q T' pc' Ls st) : Go C R q Z EL n0 Q T pc Ls (v :: .ref a :: st) := by
  obtain ⟨-, rfl⟩ := id hi
  obtain ⟨⟨k0, locs, S, N, hS, hk⟩, -, -, -, -, -, hnm, -⟩ := id X
  obtain ⟨T', h', S', e', W', st'⟩ := putF S X.exec X.zw X.owned (host := "") (Or.inl w) via X.eT F E (L.imp id fun z => ⟨z.1, z.2.1, hnm.trans z.2.2⟩) wi hty hn hf (g := mkF C.m pc Ls (v :: .ref a :: st)) rfl rfl (X.dec hi)
  exact Go.of st' (g T' h' (X.put S' (Fr.snoc S' N ga) hS hk e' (CHr.wr W' Sf X.chv) (X.old.wr W' ga)) W')
theorem On.new (X : On C R own b ml rt nm q Z a0 EL n0 vm T h k n) {Cl : String} {ix nf k' n' : Nat} (hi : Ins b pc (.new ix) 3 pc') (w : (Cond.classLink own ix Cl).before a0 Z = true) (wi : (Cond.instantiable Cl nf).before a0 Z = true) (wz : (Cond.initialized Cl).before a0 Z = true)
    (hk' : k + 1 = k') (hn' : n + nf = n') (hc : k' ≤ R.cells) (hl : n' ≤ R.slots)
    (g : ∀ T' h' a, On C R own b ml rt nm q Z a0 EL n0 vm T' h' k' n' → Ext h h' → h.size = a → n0 ≤ a → Exa Z h' a Cl → (∀ {O nm d : String} {ty : FieldType}, Laid Z a0 Cl O nm d → parseFieldDescriptor d = some ty → Fld Z h' a O nm d (defaultValue ty)) → Unt h' a → Safe Z EL vm h' a →
      Go C R q Z EL n0 Q T' pc' Ls (.ref a :: st)) : Go C R q Z EL n0 Q T pc Ls st := by
  subst hk' hn'
  obtain ⟨-, rfl⟩ := id hi
  obtain ⟨⟨k0, locs, S, N, hS, hk⟩, -⟩ := id X
  obtain ⟨T', h', S', e', E', A', D', U', st'⟩ := newO S X.exec X.zw X.owned w wi wz X.eT (g := mkF C.m pc Ls st) rfl (X.dec hi) hc hl
  exact Go.of st' (g T' h' h.size (X.put S' N hS hk e' (CHr.ext E' X.chv) (X.old.ext E')) E' rfl X.n0le A' D' U' ((Safe.new (Nat.le_refl _)).ext E' X.chv))
theorem On.newarray (X : On C R own b ml rt nm q Z a0 EL n0 vm T h k n) {aty : ArrayType} {ty : FieldType} {z : Int32} {cap k' n' : Nat} (hi : Ins b pc (.newarray aty) 2 pc') (hty : newarray.typeOf aty = ty) (w : (Cond.arrayClass ty).before a0 Z = true)
    (hz : ¬ z < 0) (hcap : z.toNatClampNeg ≤ cap) (hbig : cap * 8 ≤ 536870912) (hk' : k + 1 = k') (hn' : n + cap = n') (hc : k' ≤ R.cells) (hl : n' ≤ R.slots)
    (g : ∀ T' h' a kA, On C R own b ml rt nm q Z a0 EL n0 vm T' h' k' n' → Ext h h' → h.size = a → n0 ≤ a → Arv Z h' a kA ty z [] (defaultValue ty) → Safe Z EL vm h' a → Go C R q Z EL n0 Q T' pc' Ls (.ref a :: st)) : Go C R q Z EL n0 Q T pc Ls (.int z :: st) := by
  subst hk' hn' hty
  obtain ⟨-, rfl⟩ := id hi
  obtain ⟨⟨k0, locs, S, N, hS, hk⟩, -⟩ := id X
  obtain ⟨T', h', kA, S', e', E', A', st'⟩ := newP S X.exec X.zw w X.eT (g := mkF C.m pc Ls (.int z :: st)) rfl (X.dec hi) rfl hz hcap hbig hc hl
  exact Go.of st' (g T' h' h.size kA (X.put S' N hS hk e' (CHr.ext E' X.chv) (X.old.ext E')) E' rfl X.n0le (Arv.new A' hz) ((Safe.new (Nat.le_refl _)).ext E' X.chv))
theorem On.anewarray (X : On C R own b ml rt nm q Z a0 EL n0 vm T h k n) {Cl ad : String} {ix : Nat} {z : Int32} {cap k' n' : Nat} (hi : Ins b pc (.anewarray ix) 3 pc') (w1 : (Cond.classLink own ix Cl).before a0 Z = true) (w2 : (Cond.arrayOver (.object Cl)).before a0 Z = true)
    (hz : ¬ z < 0) (hcap : z.toNatClampNeg ≤ cap) (hbig : cap * 8 ≤ 536870912) (hk' : k + 1 = k') (hn' : n + cap = n') (hc : k' ≤ R.cells) (hl : n' ≤ R.slots) (had : "[" ++ (FieldType.object Cl).toString = ad)
    (g : ∀ T' h' a kA, On C R own b ml rt nm q Z a0 EL n0 vm T' h' k' n' → Ext h h' → h.size = a → n0 ≤ a → Arv Z h' a kA (.object Cl) z [] .null → Exa Z h' a ad → Ovr Z kA Cl → Go C R q Z EL n0 Q T' pc' Ls (.ref a :: st)) : Go C R q Z EL n0 Q T pc Ls (.int z :: st) := by
  subst hk' hn'
  obtain ⟨-, rfl⟩ := id hi
  obtain ⟨⟨k0, locs, S, N, hS, hk⟩, -⟩ := id X
  obtain ⟨T', h', kA, S', e', E', A', F', O', st'⟩ := newRE S X.exec X.zw X.owned w1 w2 X.eT (g := mkF C.m pc Ls (.int z :: st)) rfl (X.dec hi) rfl hz hcap hbig hc hl had
  exact Go.of st' (g T' h' h.size kA (X.put S' N hS hk e' (CHr.ext E' X.chv) (X.old.ext E')) E' rfl X.n0le (Arv.new A' hz) F' O')
theorem On.castore (X : On C R own b ml rt nm q Z a0 EL n0 vm T h k n) {a : Addr} {kA : ClassId} {z j x y : Int32} {vs : List Value} {dv : Value} {i : Nat} (hi : Ins b pc .castore 1 pc') (V : Arv Z h a kA .char z vs dv) (hin : ¬ j < 0 ∧ j < z) (hj : j.toNatClampNeg = i) (hl : i < vs.length) (hy : nar .char x = y) (ga : n0 ≤ a)
    (g : ∀ T' h', On C R own b ml rt nm q Z a0 EL n0 vm T' h' k n → Wr h h' a i (.int y) → Arv Z h' a kA .char z (vs.set i (.int y)) dv → Go C R q Z EL n0 Q T' pc' Ls st) : Go C R q Z EL n0 Q T pc Ls (.int x :: .int j :: .ref a :: st) := by
  subst hy hj
  obtain ⟨-, rfl⟩ := id hi
  obtain ⟨⟨k0, locs, S, N, hS, hk⟩, -⟩ := id X
  have Sf : Safe Z EL vm h a := Safe.arv X.zw.alike V (by simp)
  obtain ⟨cl, A, V2, V3, V4, V5, V6⟩ := V
  obtain ⟨T', h', S', e', W', st'⟩ := stC S X.exec X.zw X.eT A (j := j) (inb_of V3 hin) (g := mkF C.m pc Ls (.int x :: .int j :: .ref a :: st)) rfl rfl (X.dec hi)
  exact Go.of st' (g T' h' (X.put S' (Fr.snoc S' N ga) hS hk e' (CHr.wr W' Sf X.chv) (X.old.wr W' ga)) W' (Arv.set A V2 V3 V4 V5 V6 (fits_nar_char _) W' _ rfl hl))
theorem On.bastore (X : On C R own b ml rt nm q Z a0 EL n0 vm T h k n) {a : Addr} {kA : ClassId} {z j x y : Int32} {vs : List Value} {dv : Value} {i : Nat} (hi : Ins b pc .bastore 1 pc') (V : Arv Z h a kA .byte z vs dv) (hin : ¬ j < 0 ∧ j < z) (hj : j.toNatClampNeg = i) (hl : i < vs.length) (hy : nar .byte x = y) (ga : n0 ≤ a) (Sf : Safe Z EL vm h a)
    (g : ∀ T' h', On C R own b ml rt nm q Z a0 EL n0 vm T' h' k n → Wr h h' a i (.int y) → Arv Z h' a kA .byte z (vs.set i (.int y)) dv → Go C R q Z EL n0 Q T' pc' Ls st) : Go C R q Z EL n0 Q T pc Ls (.int x :: .int j :: .ref a :: st) := by
  subst hy hj
  obtain ⟨-, rfl⟩ := id hi
  obtain ⟨⟨k0, locs, S, N, hS, hk⟩, -⟩ := id X
  obtain ⟨cl, A, V2, V3, V4, V5, V6⟩ := V
  obtain ⟨T', h', S', e', W', st'⟩ := stB S X.exec X.zw X.eT A (j := j) (inb_of V3 hin) (g := mkF C.m pc Ls (.int x :: .int j :: .ref a :: st)) rfl rfl (X.dec hi)
  exact Go.of st' (g T' h' (X.put S' (Fr.snoc S' N ga) hS hk e' (CHr.wr W' Sf X.chv) (X.old.wr W' ga)) W' (Arv.set A V2 V3 V4 V5 V6 (fits_nar_byte _) W' _ rfl hl))
theorem On.aastore (X : On C R own b ml rt nm q Z a0 EL n0 vm T h k n) {a : Addr} {kA : ClassId} {ty : FieldType} {z j : Int32} {v : Value} {vs : List Value} {dv : Value} {i : Nat} (hi : Ins b pc .aastore 1 pc') (V : Arv Z h a kA ty z vs dv) (hty : ty.isReference = true) (hin : ¬ j < 0 ∧ j < z) (hj : j.toNatClampNeg = i) (hl : i < vs.length) (hf : fits ty v = true) (F : Sto Z h a v) (ga : n0 ≤ a)
    (g : ∀ T' h', On C R own b ml rt nm q Z a0 EL n0 vm T' h' k n → Wr h h' a i v → Arv Z h' a kA ty z (vs.set i v) dv → Go C R q Z EL n0 Q T' pc' Ls st) : Go C R q Z EL n0 Q T pc Ls (v :: .int j :: .ref a :: st) := by
  subst hj
  obtain ⟨-, rfl⟩ := id hi
  obtain ⟨⟨k0, locs, S, N, hS, hk⟩, -⟩ := id X
  have Sf : Safe Z EL vm h a := Safe.arv X.zw.alike V (fun z => by subst z; simp [FieldType.isReference] at hty)
  obtain ⟨cl, A, V2, V3, V4, V5, V6⟩ := V
  obtain ⟨T', h', S', e', W', st'⟩ := stR S X.exec X.zw X.eT A (j := j) (inb_of V3 hin) hty F (g := mkF C.m pc Ls (v :: .int j :: .ref a :: st)) rfl rfl (X.dec hi)
  exact Go.of st' (g T' h' (X.put S' (Fr.snoc S' N ga) hS hk e' (CHr.wr W' Sf X.chv) (X.old.wr W' ga)) W' (Arv.set A V2 V3 V4 V5 V6 hf W' _ rfl hl))
theorem On.arraylength (X : On C R own b ml rt nm q Z a0 EL n0 vm T h k n) {a : Addr} {kA : ClassId} {ty : FieldType} {z : Int32} {vs : List Value} {dv : Value} (hi : Ins b pc .arraylength 1 pc') (V : Arv Z h a kA ty z vs dv)
    (g : Go C R q Z EL n0 Q T pc' Ls (.int z :: st)) : Go C R q Z EL n0 Q T pc Ls (.ref a :: st) := by
  obtain ⟨-, rfl⟩ := id hi
  obtain ⟨⟨k0, locs, S, N, hS, hk⟩, -⟩ := id X
  obtain ⟨cl, A, V2, V3, V4, V5, V6⟩ := V
  refine Go.of (fun t u => S.arraylength X.exec (by rw [X.eT]; exact A.1) (State.isArrayOf_alike X.zw.alike A.2.1) (g := mkF C.m pc Ls (.ref a :: st)) rfl rfl (X.dec hi) t ?_) g
  rw [len_of V3 V4]; exact u
theorem On.caload (X : On C R own b ml rt nm q Z a0 EL n0 vm T h k n) {a : Addr} {kA : ClassId} {z j : Int32} {vs : List Value} {dv v : Value} (hi : Ins b pc .caload 1 pc') (V : Arv Z h a kA .char z vs dv) (hin : ¬ j < 0 ∧ j < z) (hv : vs.getD j.toNatClampNeg dv = v)
    (g : Go C R q Z EL n0 Q T pc' Ls (v :: st)) : Go C R q Z EL n0 Q T pc Ls (.int j :: .ref a :: st) := by
  obtain ⟨-, rfl⟩ := id hi
  obtain ⟨⟨k0, locs, S, N, hS, hk⟩, -⟩ := id X
  obtain ⟨cl, A, V2, V3, V4, V5, V6⟩ := V
  exact Go.of (fun t u => S.caload X.exec (by rw [X.eT]; exact A.1) (State.isArrayOf_alike X.zw.alike A.2.1) A.2.2 (inb_of V3 hin) (V5.at (inb_of V3 hin) hv) (g := mkF C.m pc Ls (.int j :: .ref a :: st)) rfl rfl (X.dec hi) t u) g
theorem On.baload (X : On C R own b ml rt nm q Z a0 EL n0 vm T h k n) {a : Addr} {kA : ClassId} {z j : Int32} {vs : List Value} {dv v : Value} (hi : Ins b pc .baload 1 pc') (V : Arv Z h a kA .byte z vs dv) (hin : ¬ j < 0 ∧ j < z) (hv : vs.getD j.toNatClampNeg dv = v)
    (g : Go C R q Z EL n0 Q T pc' Ls (v :: st)) : Go C R q Z EL n0 Q T pc Ls (.int j :: .ref a :: st) := by
  obtain ⟨-, rfl⟩ := id hi
  obtain ⟨⟨k0, locs, S, N, hS, hk⟩, -⟩ := id X
  obtain ⟨cl, A, V2, V3, V4, V5, V6⟩ := V
  exact Go.of (fun t u => S.baloadBytes X.exec (by rw [X.eT]; exact A.1) (State.isArrayOf_alike X.zw.alike A.2.1) A.2.2 (inb_of V3 hin) (V5.at (inb_of V3 hin) hv) (g := mkF C.m pc Ls (.int j :: .ref a :: st)) rfl rfl (X.dec hi) t u) g
theorem On.aaload (X : On C R own b ml rt nm q Z a0 EL n0 vm T h k n) {a : Addr} {kA : ClassId} {ty : FieldType} {z j : Int32} {vs : List Value} {dv v : Value} (hi : Ins b pc .aaload 1 pc') (V : Arv Z h a kA ty z vs dv) (hty : ty.isReference = true) (hin : ¬ j < 0 ∧ j < z) (hv : vs.getD j.toNatClampNeg dv = v)
    (g : Go C R q Z EL n0 Q T pc' Ls (v :: st)) : Go C R q Z EL n0 Q T pc Ls (.int j :: .ref a :: st) := by
  obtain ⟨-, rfl⟩ := id hi
  obtain ⟨⟨k0, locs, S, N, hS, hk⟩, -⟩ := id X
  obtain ⟨cl, A, V2, V3, V4, V5, V6⟩ := V
  exact Go.of (fun t u => S.aaload X.exec (by rw [X.eT]; exact A.1) (State.isArrayOf_alike X.zw.alike A.2.1) hty A.2.2 (inb_of V3 hin) (V5.at (inb_of V3 hin) hv) (g := mkF C.m pc Ls (.int j :: .ref a :: st)) rfl rfl (X.dec hi) t u) g
theorem On.ldcI (X : On C R own b ml rt nm q Z a0 EL n0 vm T h k n) {ix : Nat} {v : Int32} (hi : Ins b pc (.ldc ix) 2 pc') (w : (Cond.constant own ix v).before a0 Z = true) (g : Go C R q Z EL n0 Q T pc' Ls (.int v :: st)) : Go C R q Z EL n0 Q T pc Ls st := by
  obtain ⟨-, rfl⟩ := id hi
  obtain ⟨⟨k0, locs, S, N, hS, hk⟩, -⟩ := id X
  exact Go.of (fun t u => S.ldcI X.exec X.owned (mv (s := C.s.setVm vm) X.zw w) (g := mkF C.m pc Ls st) rfl (X.dec hi) u) g
theorem On.ldc2J (X : On C R own b ml rt nm q Z a0 EL n0 vm T h k n) {ix : Nat} {v : Int64} (hi : Ins b pc (.ldc2_w ix) 3 pc') (w : (Cond.constantLong own ix v).before a0 Z = true) (g : Go C R q Z EL n0 Q T pc' Ls (.long v :: st)) : Go C R q Z EL n0 Q T pc Ls st := by
  obtain ⟨-, rfl⟩ := id hi
  obtain ⟨⟨k0, locs, S, N, hS, hk⟩, -⟩ := id X
  exact Go.of (fun t u => S.ldc2J X.exec X.owned (mv (s := C.s.setVm vm) X.zw w) (g := mkF C.m pc Ls st) rfl (X.dec hi) u) g
theorem On.checkcast (X : On C R own b ml rt nm q Z a0 EL n0 vm T h k n) {K : String} {ix : Nat} {a : Addr} (hi : Ins b pc (.checkcast ix) 3 pc') (w : (Cond.classLink own ix K).before a0 Z = true) (F : RoadKit.Ins Z h a K true)
    (g : ∀ T', On C R own b ml rt nm q Z a0 EL n0 vm T' h k n → Go C R q Z EL n0 Q T' pc' Ls (.ref a :: st)) : Go C R q Z EL n0 Q T pc Ls (.ref a :: st) := by
  obtain ⟨-, rfl⟩ := id hi
  obtain ⟨⟨k0, locs, S, N, hS, hk⟩, -⟩ := id X
  obtain ⟨T', S', e', st'⟩ := castY S X.exec X.zw X.owned w X.eT F (g := mkF C.m pc Ls (.ref a :: st)) rfl rfl (X.dec hi)
  exact Go.of st' (g T' (X.put S' N hS hk e' (CHr.refl X.chv) X.old))
theorem On.instY (X : On C R own b ml rt nm q Z a0 EL n0 vm T h k n) {K : String} {ix : Nat} {a : Addr} (hi : Ins b pc (.instanceof ix) 3 pc') (w : (Cond.classLink own ix K).before a0 Z = true) (F : RoadKit.Ins Z h a K true)
    (g : ∀ T', On C R own b ml rt nm q Z a0 EL n0 vm T' h k n → Go C R q Z EL n0 Q T' pc' Ls (.int 1 :: st)) : Go C R q Z EL n0 Q T pc Ls (.ref a :: st) := by
  obtain ⟨-, rfl⟩ := id hi
  obtain ⟨⟨k0, locs, S, N, hS, hk⟩, -⟩ := id X
  obtain ⟨T', S', e', st'⟩ := RoadKit.instY S X.exec X.zw X.owned w X.eT F (g := mkF C.m pc Ls (.ref a :: st)) rfl rfl (X.dec hi)
  exact Go.of st' (g T' (X.put S' N hS hk e' (CHr.refl X.chv) X.old))
theorem On.instNo (X : On C R own b ml rt nm q Z a0 EL n0 vm T h k n) {K Cl : String} {ix : Nat} {a : Addr} (hi : Ins b pc (.instanceof ix) 3 pc') (w : (Cond.classLink own ix K).before a0 Z = true) (E : Exa Z h a Cl) (F : ∃ c t, Z.vm.findClass Cl = some c ∧ Z.vm.findClass K = some t ∧ Z.vm.assignable c t = false)
    (g : ∀ T', On C R own b ml rt nm q Z a0 EL n0 vm T' h k n → Go C R q Z EL n0 Q T' pc' Ls (.int 0 :: st)) : Go C R q Z EL n0 Q T pc Ls (.ref a :: st) := by
  obtain ⟨-, rfl⟩ := id hi
  obtain ⟨⟨k0, locs, S, N, hS, hk⟩, -⟩ := id X
  obtain ⟨T', S', e', st'⟩ := RoadKit.instNo S X.exec X.zw X.owned w X.eT E F (g := mkF C.m pc Ls (.ref a :: st)) rfl rfl (X.dec hi)
  exact Go.of st' (g T' (X.put S' N hS hk e' (CHr.refl X.chv) X.old))
/-- Object.<init> -/
theorem On.initO (X : On C R own b ml rt nm q Z a0 EL n0 vm T h k n) {ix W : Nat} {a : Addr} (hi : Ins b pc (.invokespecial ix) 3 pc') (w1 : (Cond.methodLink own ix Lib.objectInit).before a0 Z = true) (w2 : (Cond.instanceMethod Lib.objectInit).before a0 Z = true) (w3 : (Cond.code Lib.objectInit ⟨#[0xb1]⟩ 1 none).before a0 Z = true)
    (hsz : Ls.size = ml) (hf : 1 ≤ R.frames) (hW : 0 + (st.map fun v => v.category).sum = W) (hl : W + 12 ≤ R.locals)
    (g : ∀ T', On C R own b ml rt nm q Z a0 EL n0 vm T' h k n → Go C R q Z EL n0 Q T' pc' Ls st) : Go C R q Z EL n0 Q T pc Ls (.ref a :: st) := by
  obtain ⟨-, rfl⟩ := id hi
  obtain ⟨⟨k0, locs, S, N, hS, hk⟩, -, -, -, hml, -⟩ := id X
  obtain ⟨T', S', e', st'⟩ := RoadKit.initO S X.exec X.zw X.owned w1 w2 w3 X.eT (g := mkF C.m pc Ls (.ref a :: st)) rfl (hsz.trans hml.symm) rfl (X.dec hi) hf (W := W) (Nat.le_of_eq hW) hl
  exact Go.of st' (g T' (X.put S' N hS hk e' (CHr.refl X.chv) X.old))
/-! ### the end -/
theorem On.leave (X : On C R own b ml rt nm q Z a0 EL n0 vm T h k n) {v : Option Value} (hv : rt = none → v = none) (hk : k ≤ R.cells) (hn : n ≤ R.slots) (hQ : Q v h) {Ls : Array Slot} {st : List Value}
    (f : ∀ locs fs, Stand C.p C.l C.e R (C.s.setVm vm) C.m C.args C.below C.meth C.c T locs k n → (∀ (f : JFrame) (acts : List Action), f.method = C.m → f.locked = none → f.entered = [] → (doReturn C.e (T.setTop f) acts v).1 = T.setFrames fs) → Steps C.p.tables C.e C.below (T.setTop (mkF C.m pc Ls st)) (T.setFrames fs)) :
    Go C R q Z EL n0 Q T pc Ls st := by
  obtain ⟨⟨k0, locs, S, N, hS, hk0⟩, eT, e2, e3, e4, e5, e6, e7, e8, e9, e10, e11, e12, e13⟩ := X
  subst eT
  obtain ⟨fs, h1, h2, h3, h4⟩ := S.leaveW hS hk0 (v := v) (fun z => hv (e5.symm.trans z)) e7
  obtain ⟨r1, r2, r3, r4⟩ := h4
  have r5 : C.s.sameButNew { T.setFrames fs with vm := C.s.vm } locs R.cells R.slots := r4.mono hk hn
  refine ⟨T.setFrames fs, .returned v, f locs fs S h1, h2, h3, v, locs, rfl, ⟨hQ, N, e13⟩, e11.trans (show CHr Z EL vm T.heap T.vm T.heap from CHv.at S e8 e10 e11.1), ⟨r1, r2, r3, r5⟩, fun hq => ⟨r1, ?_, r5⟩⟩
  exact State.WarmedH.trans (t := C.s.setVm vm) (e12 hq) S.warmed
theorem On.ret (X : On C R own b ml rt nm q Z a0 EL n0 vm T h k n) (hi : Ins b pc .return_ 1 pc') (hr : rt = none) (hk : k ≤ R.cells) (hn : n ≤ R.slots) (hQ : Q none h) : Go C R q Z EL n0 Q T pc Ls [] :=
  X.leave (v := none) (fun _ => rfl) hk hn hQ fun locs fs S hl => S.returnOut X.exec (X.2.2.2.2.2.1.trans hr) (X.dec hi) hl
theorem On.ireturn (X : On C R own b ml rt nm q Z a0 EL n0 vm T h k n) {t : FieldType} {z : Int32} (hi : Ins b pc .ireturn 1 pc') (hr : rt = some t) (ht : t = .int ∨ t = .boolean ∨ t = .byte ∨ t = .char ∨ t = .short) (hz : narrow t (.int z) = .int z) (hk : k ≤ R.cells) (hn : n ≤ R.slots) (hQ : Q (some (.int z)) h) : Go C R q Z EL n0 Q T pc Ls (.int z :: st) :=
  X.leave (v := some (.int z)) (fun y => by rw [hr] at y; cases y) hk hn hQ fun locs fs S hl => retOut S X.exec (X.2.2.2.2.2.1.trans hr) hz (Or.inl ⟨rfl, ht, z, rfl⟩) (X.dec hi) hl
theorem On.lreturn (X : On C R own b ml rt nm q Z a0 EL n0 vm T h k n) {z : Int64} (hi : Ins b pc .lreturn 1 pc') (hr : rt = some .long) (hk : k ≤ R.cells) (hn : n ≤ R.slots) (hQ : Q (some (.long z)) h) : Go C R q Z EL n0 Q T pc Ls (.long z :: st) :=
  X.leave (v := some (.long z)) (fun y => by rw [hr] at y; cases y) hk hn hQ fun locs fs S hl => retOut S X.exec (X.2.2.2.2.2.1.trans hr) rfl (Or.inr (Or.inl ⟨rfl, rfl, z, rfl⟩)) (X.dec hi) hl
theorem On.areturn (X : On C R own b ml rt nm q Z a0 EL n0 vm T h k n) {t : FieldType} {v : Value} (hi : Ins b pc .areturn 1 pc') (hr : rt = some t) (ht : t.isReference = true) (hv : v.isRef = true) (hk : k ≤ R.cells) (hn : n ≤ R.slots) (hQ : Q (some v) h) : Go C R q Z EL n0 Q T pc Ls (v :: st) :=
  X.leave (v := some v) (fun y => by rw [hr] at y; cases y) hk hn hQ fun locs fs S hl => retOut S X.exec (X.2.2.2.2.2.1.trans hr) (by cases t <;> cases v <;> first | rfl | simp [FieldType.isReference] at ht | simp [Value.isRef] at hv) (Or.inr (Or.inr (Or.inr (Or.inr ⟨rfl, ht, hv⟩)))) (X.dec hi) hl
end Heap
end Jvm.Own
namespace Jvm.Own
open Jvm Jvm.ClassFile Sem Op Lib Jvm.Free Jvm.Stand Jvm.LawKit Jvm.RoadKit Bundle
/-! ### contracts and calls -/
/-- the contract of a body, at a heap and for arguments: ws are the String and byte[] cells that it may write -/
def Con (wl : List Jvm.Cond) (q : Bool) (l : Launch) (Z : State) (EL : List (String × Nat)) (n0 : Nat) (ws : List Addr) (y : MethodName) (bytes : ByteArray) (maxL : Nat) (ret : Option FieldType) (rm : Room) (as' : Array Value) (h : Heap) (Q : Option Value → Heap → Prop) : Prop :=
  MetFree l y (head1 (Cond.code y bytes maxL ret :: wl) rm) (fun a U => a = as' ∧ Z.Warmed39 U.vm ∧ U.heap = h ∧ CHv Z EL U.vm h ∧ ∀ x ∈ ws, Safe Z EL U.vm h x) (fun _ _ _ _ _ => True)
    (fun _ U o U' => ∃ v L, o = .returned v ∧ (Q v U'.heap ∧ Fr n0 L ∧ Old Z n0 U'.heap) ∧ CHr Z EL U.vm U.heap U'.vm U'.heap ∧ EndQ q U o U' L rm.cells rm.slots)
theorem Con.intro {wl : List Jvm.Cond} {q : Bool} {l : Launch} {Z : State} {a0 : Array Value} {EL : List (String × Nat)} {n0 : Nat} {ws : List Addr} {y : MethodName} {bytes : ByteArray} {maxL : Nat} {ret : Option FieldType} {rm : Room} {as' : Array Value} {h : Heap} {Q : Option Value → Heap → Prop} {Ls : Array Slot}
    (hp : plainName y.cls = true) (hEL : EW Z a0 EL) (hO : Old Z n0 h) (ef : ∀ m, entryFrame m as' maxL = mkF m 0 Ls [])
    (body : ∀ (C : Cx) (vm : Vm) (T : State), C.l = l → On C rm y.cls bytes maxL ret y.name q Z a0 EL n0 vm T h 0 0 → (∀ x ∈ ws, Safe Z EL vm h x) → Go C rm q Z EL n0 Q T 0 Ls []) : Con wl q l Z EL n0 ws y bytes maxL ret rm as' h Q := by
  refine MetFree.of_bodySF (plainFor_of_name hp) hisR ?_
  intro p e s m args below meth c s₁ Bd hml0 hP hK
  obtain ⟨rfl, hZ, rfl, hC, hw⟩ := hP
  have e0 : s₁.heap = s.heap := by rw [Bd.state]; rfl
  have S0 : Stand p l e rm s m args below meth c s₁ [] 0 0 := Stand.of_body Bd
  have g := body (p, l, e, s, m, args, below, meth, c) s.vm s₁ rfl ⟨⟨0, [], S0, Fr.nil n0, (State.WarmedH.refl s).since 0, Nat.zero_le _⟩, e0, Bd.exec, Bd.bytes, hml0, Bd.returns, (name_of_methodNamed Bd.named Bd.method).1, Bd.notSynchronized, hZ, findClass_of_methodNamed Bd.named, hEL, CHr.refl hC, fun _ => State.WarmedH.refl s, hO⟩ hw
  obtain ⟨s2, o, g1, g2, g3, v, L, g4, g5, g6, g7⟩ := g
  refine ⟨s2, o, castTop (ef m) g1, g2, g3, v, L, g4, g5, g6, g7⟩
theorem backQ {q : Bool} {l : Launch} {Z : State} {a0 : Array Value} {EL : List (String × Nat)} {n0 : Nat} {ws : List Addr} {y : MethodName} {bytes : ByteArray} {maxL : Nat} {ret : Option FieldType} {rm R : Room} {as' : Array Value} {h : Heap} {Q : Option Value → Heap → Prop} {p : Program} {e : Env} {below : List Frame} {s : State} {args : Array Value} {vm : Vm} {len W : Nat}
    (hM : Con [] q l Z EL n0 ws y bytes maxL ret rm as' h Q) (hZ : Z.Warmed39 vm) (wc : (Cond.code y bytes maxL ret).before a0 Z = true) (wz : (Cond.initialized y.cls).before a0 Z = true) (hf : rm.frames + 1 ≤ R.frames) (hl : W + (maxL + 11) + rm.locals ≤ R.locals) (hEL : EW Z a0 EL) (H : CHv Z EL vm h) (hs : ∀ x ∈ ws, Safe Z EL vm h x ∧ x < h.size) :
    BackS l R p e below (s.setVm vm) args y len W (fun A a => a = as' ∧ A.U.heap = h ∧ A.cells + rm.cells ≤ R.cells ∧ A.slots + rm.slots ≤ R.slots)
      (fun A _ v B => ∃ L, (Q v B.U.heap ∧ Fr n0 L ∧ Old Z n0 B.U.heap) ∧ B.locs = A.locs ++ L ∧ B.cells = A.cells + rm.cells ∧ B.slots = A.slots + rm.slots ∧ CHr Z EL vm h B.U.vm B.U.heap ∧ (q = true → (s.setVm vm).WarmedH B.U.vm)) :=
  BackS.of_freeW (bytes := bytes) (maxL := maxL) (ret := ret) (E := fun _ first o t L k n => k = rm.cells ∧ n = rm.slots ∧ (∃ v, o = .returned v ∧ (Q v t.heap ∧ Fr n0 L ∧ Old Z n0 t.heap)) ∧ CHr Z EL first.vm first.heap t.vm t.heap ∧ (q = true → first.WarmedH t.vm)) hM hf hl
    (fun m meth c A a Y hp => have hU : Z.Warmed39 A.U.vm := wtrans (s := s.setVm vm) hZ Y.warmed
      ⟨by show (Cond.and _ .tt).before a A.U = true; rw [Cond.before_and, mv hU wc]; rfl, mv hU wc, mv hU wz, hp.2.2.1, hp.2.2.2⟩)
    (fun m meth c A a g mk Y hp => ⟨hp.1, wtrans (s := s.setVm vm) hZ Y.warmed, hp.2.1, (CHv.at Y hZ hEL H).1, fun x hx => (CHv.at Y hZ hEL H).safe (hs x hx).2 (hs x hx).1⟩) (fun _ _ _ _ _ _ _ _ _ => trivial)
    (fun _ _ _ _ ⟨v, L, h1, h2, h3, h4⟩ => ⟨L, _, _, h4.1, rfl, rfl, ⟨v, h1, h2⟩, h3, fun hq => (h4.2 hq).2.1⟩)
    (fun m meth c A a g mk v t L k n Y hp _ _ ⟨e1, e2, ⟨v', e3, e4⟩, e5, e6⟩ => by
      cases e3; subst e1 e2
      refine ⟨L, e4, rfl, rfl, rfl, (CHv.at Y hZ hEL H).trans ?_, fun hq => State.WarmedH.trans (t := A.U) Y.warmed (e6 hq)⟩
      rw [← hp.2.1]; exact e5)
section Calls
variable {C : Cx} {R : Room} {own : String} {b : ByteArray} {ml : Nat} {rt : Option FieldType} {nm : String} {q : Bool} {Z : State} {a0 : Array Value} {EL : List (String × Nat)} {n0 : Nat} {vm : Vm} {T : State} {h : Heap} {k n : Nat} {Q : Option Value → Heap → Prop} {pc pc' pt : Nat} {Ls Ls' : Array Slot} {st : List Value}
/-- behind a call: where the walk stands -/
theorem On.after (X : On C R own b ml rt nm q Z a0 EL n0 vm T h k n) {B : Pt} {rm : Room} {Q' : Heap → Prop} {k' n' k0 : Nat} {locs : List Loc} (N : Fr n0 locs) (hS : C.s.Since vm k0) (hk : k0 ≤ h.size)
    (S' : Stand C.p C.l C.e R ((C.s.setVm vm).setVm B.U.vm) C.m C.args C.below C.meth C.c B.U B.locs B.cells B.slots) (hs : (C.s.setVm vm).Since B.U.vm B.U.heap.size) (hg : T.heap.size ≤ B.U.heap.size)
    (hp : ∃ L, (Q' B.U.heap ∧ Fr n0 L ∧ Old Z n0 B.U.heap) ∧ B.locs = locs ++ L ∧ B.cells = k + rm.cells ∧ B.slots = n + rm.slots ∧ CHr Z EL vm h B.U.vm B.U.heap ∧ (q = true → (C.s.setVm vm).WarmedH B.U.vm)) (hk' : k + rm.cells = k') (hn' : n + rm.slots = n') :
    On C R own b ml rt nm q Z a0 EL n0 B.U.vm B.U B.U.heap k' n' ∧ CHr Z EL vm h B.U.vm B.U.heap ∧ Q' B.U.heap := by
  obtain ⟨-, e1, e2, e3, e4, e5, e6, e7, e8, e9, e10, e11, e12, e13⟩ := X
  obtain ⟨L, ⟨r1, r2, r8⟩, r3, r4, r5, r6, r7⟩ := hp
  subst hk' hn'
  rw [r3, r4, r5] at S'
  rw [e1] at hg
  exact ⟨⟨⟨_, _, S', N.app r2, hS.trans hs (Nat.le_trans hk hg), Nat.le_refl _⟩, rfl, e2, e3, e4, e5, e6, e7, State.Warmed39.trans (t := C.s.setVm vm) e8 hs.1, by rw [hs.1.alike.findClass]; exact e9, e10, e11.trans r6, fun hq => State.WarmedH.trans (t := C.s.setVm vm) (e12 hq) (r7 hq), r8⟩, r6, r1⟩
theorem On.callS (X : On C R own b ml rt nm q Z a0 EL n0 vm T h k n) {l : Launch} (hl0 : C.l = l) {ix W k' n' : Nat} {y : MethodName} {bytes : ByteArray} {maxL : Nat} {ret r : Option FieldType} {ps : List FieldType} {rm : Room} {Q' : Option Value → Heap → Prop} {ws : List Addr} {argsL sta : List Value} (hi : Ins b pc (.invokestatic ix) 3 pc')
    (hM : Con [] q l Z EL n0 ws y bytes maxL ret rm argsL.toArray h Q') (w1 : (Cond.methodLink own ix y).before a0 Z = true) (w2 : (Cond.static y).before a0 Z = true) (w3 : (Cond.initialized y.cls).before a0 Z = true) (w4 : (Cond.code y bytes maxL ret).before a0 Z = true) (hy : y.cls ≠ "java/lang/invoke/MethodHandle" ∧ y.cls ≠ "java/lang/invoke/VarHandle")
    (hs : ∀ x ∈ ws, Safe Z EL vm h x ∧ x < h.size) (hd : parseMethodDescriptor y.desc = some ⟨ps, r⟩) (hn : argsL.length = ps.length) (hst : sta = argsL.reverse ++ st) (hsz : Ls.size = ml) (hW : 0 + (st.map fun v => v.category).sum = W) (hf : rm.frames + 1 ≤ R.frames) (hl : W + (maxL + 11) + rm.locals ≤ R.locals)
    (hk' : k + rm.cells = k') (hn' : n + rm.slots = n') (hc : k' ≤ R.cells) (hsl : n' ≤ R.slots)
    (g : ∀ vm' T' h' v, On C R own b ml rt nm q Z a0 EL n0 vm' T' h' k' n' → CHr Z EL vm h vm' h' → Q' v h' → Go C R q Z EL n0 Q T' pc' Ls (v.toList ++ st)) : Go C R q Z EL n0 Q T pc Ls sta := by
  subst hl0 hst
  obtain ⟨-, rfl⟩ := id hi
  obtain ⟨⟨k0, locs, S, N, hS, hk⟩, -, -, -, hml, -⟩ := id X
  obtain ⟨v, vm1, B, -, S', s1, s2, hp, stp⟩ := callSS S X.exec (y := y) X.owned (mv (s := C.s.setVm vm) X.zw w1) (mv (s := C.s.setVm vm) X.zw w2) (mv (s := C.s.setVm vm) X.zw w3) (mv (s := C.s.setVm vm) X.zw w4) hy (backQ (W := W) hM X.zw w4 w3 hf hl X.ew X.chv hs) (g := mkF C.m pc Ls (argsL.reverse ++ st)) rfl (hsz.trans hml.symm) (argsL := argsL) (rest := st) (lenOf hd hn) rfl (by show 2 * 0 + _ ≤ _; omega) (X.dec hi)
    (fun _ _ => ⟨rfl, X.eT, hk' ▸ hc, hn' ▸ hsl⟩)
  obtain ⟨X', r1, r2⟩ := X.after (Q' := Q' v) N hS hk S' s1 s2 hp hk' hn'
  exact Go.of (fun t u => stp.trans u) (g _ _ _ v X' r1 r2)
theorem On.callI (X : On C R own b ml rt nm q Z a0 EL n0 vm T h k n) {l : Launch} (hl0 : C.l = l) {ix W k' n' : Nat} {y : MethodName} {bytes : ByteArray} {maxL : Nat} {r : Option FieldType} {ps : List FieldType} {rm : Room} {Q' : Option Value → Heap → Prop} {ws : List Addr} {a : Addr} {argsL sta : List Value} (hi : Ins b pc (.invokespecial ix) 3 pc')
    (hM : Con [] q l Z EL n0 ws y bytes maxL none rm (.ref a :: argsL).toArray h Q') (w1 : (Cond.methodLink own ix y).before a0 Z = true) (w2 : (Cond.instanceMethod y).before a0 Z = true) (w3 : (Cond.initialized y.cls).before a0 Z = true) (w4 : (Cond.code y bytes maxL none).before a0 Z = true) (hy1 : y.name = "<init>") (hy : y.cls ≠ "java/lang/invoke/MethodHandle" ∧ y.cls ≠ "java/lang/invoke/VarHandle")
    (hs : ∀ x ∈ ws, Safe Z EL vm h x ∧ x < h.size) (hd : parseMethodDescriptor y.desc = some ⟨ps, r⟩) (hn : argsL.length = ps.length) (hst : sta = argsL.reverse ++ .ref a :: st) (hsz : Ls.size = ml) (hW : 0 + (st.map fun v => v.category).sum = W) (hf : rm.frames + 1 ≤ R.frames) (hl : W + (maxL + 11) + rm.locals ≤ R.locals)
    (hk' : k + rm.cells = k') (hn' : n + rm.slots = n') (hc : k' ≤ R.cells) (hsl : n' ≤ R.slots)
    (g : ∀ vm' T' h' v, On C R own b ml rt nm q Z a0 EL n0 vm' T' h' k' n' → CHr Z EL vm h vm' h' → Q' v h' → Go C R q Z EL n0 Q T' pc' Ls (v.toList ++ st)) : Go C R q Z EL n0 Q T pc Ls sta := by
  subst hl0 hst
  obtain ⟨-, rfl⟩ := id hi
  obtain ⟨⟨k0, locs, S, N, hS, hk⟩, -, -, -, hml, -⟩ := id X
  obtain ⟨v, vm1, B, -, S', s1, s2, hp, stp⟩ := S.specialBackS X.exec (y := y) hy1 X.owned (mv (s := C.s.setVm vm) X.zw w1) (mv (s := C.s.setVm vm) X.zw w2) (mv (s := C.s.setVm vm) X.zw w4) hy (backQ (W := W) hM X.zw w4 w3 hf hl X.ew X.chv hs) (g := mkF C.m pc Ls (argsL.reverse ++ .ref a :: st)) rfl (hsz.trans hml.symm) (Steps.refl _) (a := a) (argsL := argsL) (rest := st) (lenOf hd hn) rfl (by show 2 * 0 + _ ≤ _; omega) (X.dec hi)
    (fun _ _ => ⟨rfl, X.eT, hk' ▸ hc, hn' ▸ hsl⟩)
  obtain ⟨X', r1, r2⟩ := X.after (Q' := Q' v) N hS hk S' s1 s2 hp hk' hn'
  exact Go.of (fun t u => stp.trans u) (g _ _ _ v X' r1 r2)
/-- an instance method: y as the entry names it, z as the receiver's class Cl selects it -/
theorem On.callV (X : On C R own b ml rt nm q Z a0 EL n0 vm T h k n) {l : Launch} (hl0 : C.l = l) {ix W k' n' : Nat} {y z : MethodName} {Cl : String} {bytes : ByteArray} {maxL : Nat} {ret r : Option FieldType} {ps : List FieldType} {rm : Room} {Q' : Option Value → Heap → Prop} {ws : List Addr} {a : Addr} {argsL sta : List Value} (hi : Ins b pc (.invokevirtual ix) 3 pc')
    (hM : Con [] q l Z EL n0 ws z bytes maxL ret rm (.ref a :: argsL).toArray h Q') (E : Exa Z h a Cl) (w1 : (Cond.methodLink own ix y).before a0 Z = true) (w2 : (Cond.declares y).before a0 Z = true) (w5 : (Cond.selects Cl y z).before a0 Z = true) (hnf : NotFace (C.s.setVm vm) y) (w6 : (Cond.instanceMethod z).before a0 Z = true) (w3 : (Cond.initialized z.cls).before a0 Z = true) (w4 : (Cond.code z bytes maxL ret).before a0 Z = true) (hy : y.cls ≠ "java/lang/invoke/MethodHandle" ∧ y.cls ≠ "java/lang/invoke/VarHandle")
    (hs : ∀ x ∈ ws, Safe Z EL vm h x ∧ x < h.size) (hd : parseMethodDescriptor y.desc = some ⟨ps, r⟩) (hn : argsL.length = ps.length) (hst : sta = argsL.reverse ++ .ref a :: st) (hsz : Ls.size = ml) (hW : 0 + (st.map fun v => v.category).sum = W) (hf : rm.frames + 1 ≤ R.frames) (hl : W + (maxL + 11) + rm.locals ≤ R.locals)
    (hk' : k + rm.cells = k') (hn' : n + rm.slots = n') (hc : k' ≤ R.cells) (hsl : n' ≤ R.slots)
    (g : ∀ vm' T' h' v, On C R own b ml rt nm q Z a0 EL n0 vm' T' h' k' n' → CHr Z EL vm h vm' h' → Q' v h' → Go C R q Z EL n0 Q T' pc' Ls (v.toList ++ st)) : Go C R q Z EL n0 Q T pc Ls sta := by
  subst hl0 hst
  obtain ⟨-, rfl⟩ := id hi
  obtain ⟨⟨k0, locs, S, N, hS, hk⟩, -, -, -, hml, -⟩ := id X
  obtain ⟨cB, kB, q1, q2, q3⟩ := isOf (s := C.s.setVm vm) X.zw X.eT E
  obtain ⟨v, vm1, B, -, S', s1, s2, hp, stp⟩ := S.virtualBackS X.exec (y := y) (z := z) X.owned (mv (s := C.s.setVm vm) X.zw w1) (mv (s := C.s.setVm vm) X.zw w2) hnf (mv (s := C.s.setVm vm) X.zw w5) (mv (s := C.s.setVm vm) X.zw w6) hy (backQ (W := W) hM X.zw w4 w3 hf hl X.ew X.chv hs) q1 q3 (g := mkF C.m pc Ls (argsL.reverse ++ .ref a :: st)) rfl (hsz.trans hml.symm) (Steps.refl _) (argsL := argsL) (rest := st) (lenOf hd hn) rfl (by show 2 * 0 + _ ≤ _; omega) (X.dec hi)
    (fun _ _ => ⟨rfl, X.eT, hk' ▸ hc, hn' ▸ hsl⟩)
  obtain ⟨X', r1, r2⟩ := X.after (Q' := Q' v) N hS hk S' s1 s2 hp hk' hn'
  exact Go.of (fun t u => stp.trans u) (g _ _ _ v X' r1 r2)
theorem nfSel {s : State} {Cl : String} {y : MethodName} (hZ : Z.Warmed39 vm) (w : (Cond.selects Cl y y).before a0 Z = true) : NotFace (s.setVm vm) y := notFace_of_selects (args := #[]) (mv (s := s.setVm vm) hZ w)
end Calls
end Jvm.Own
namespace Jvm.Own
open Jvm Jvm.ClassFile Sem Op Lib Jvm.Free Jvm.Stand Jvm.LawKit Jvm.RoadKit Bundle
/-! ### calls that a Back pays, and Strings -/
section Backs
variable {C : Cx} {R : Room} {own : String} {b : ByteArray} {ml : Nat} {rt : Option FieldType} {nm : String} {q : Bool} {Z : State} {a0 : Array Value} {EL : List (String × Nat)} {n0 : Nat} {vm : Vm} {T : State} {h : Heap} {k n : Nat} {Q : Option Value → Heap → Prop} {pc pc' pt : Nat} {Ls Ls' : Array Slot} {st : List Value}
theorem On.backI (X : On C R own b ml rt nm q Z a0 EL n0 vm T h k n) {ix W k' n' kc ks : Nat} {y : MethodName} {bytes : ByteArray} {maxL : Nat} {r : Option FieldType} {ps : List FieldType} {QQ : Option Value → Heap → List Loc → Prop} {a : Addr} {argsL sta : List Value} (hi : Ins b pc (.invokespecial ix) 3 pc')
    (hK : Back C.l R C.p C.e C.below (C.s.setVm vm) C.args y 3 W (fun P a' => a' = (.ref a :: argsL).toArray ∧ P.U.heap = h ∧ P.cells + kc ≤ R.cells ∧ P.slots + ks ≤ R.slots) (fun P _ v B => ∃ L, QQ v B.U.heap L ∧ B.locs = P.locs ++ L ∧ B.cells = P.cells + kc ∧ B.slots = P.slots + ks))
    (hQ : ∀ v h' L, QQ v h' L → Fr n0 L ∧ CHr Z EL vm h vm h' ∧ Old Z n0 h') (w1 : (Cond.methodLink own ix y).before a0 Z = true) (w2 : (Cond.instanceMethod y).before a0 Z = true) (w4 : (Cond.code y bytes maxL none).before a0 Z = true) (hy1 : y.name = "<init>") (hy : y.cls ≠ "java/lang/invoke/MethodHandle" ∧ y.cls ≠ "java/lang/invoke/VarHandle")
    (hd : parseMethodDescriptor y.desc = some ⟨ps, r⟩) (hn : argsL.length = ps.length) (hst : sta = argsL.reverse ++ .ref a :: st) (hsz : Ls.size = ml) (hW : 0 + (st.map fun v => v.category).sum = W)
    (hk' : k + kc = k') (hn' : n + ks = n') (hc : k' ≤ R.cells) (hsl : n' ≤ R.slots)
    (g : ∀ T' h' v L, On C R own b ml rt nm q Z a0 EL n0 vm T' h' k' n' → QQ v h' L → Go C R q Z EL n0 Q T' pc' Ls (v.toList ++ st)) : Go C R q Z EL n0 Q T pc Ls sta := by
  subst hst hk' hn'
  obtain ⟨-, rfl⟩ := id hi
  obtain ⟨⟨k0, locs, S, N, hS, hk⟩, -, -, -, hml, -⟩ := id X
  obtain ⟨v, vm1, B, -, S', hp, stp⟩ := S.specialBack X.exec (y := y) hy1 X.owned (mv (s := C.s.setVm vm) X.zw w1) (mv (s := C.s.setVm vm) X.zw w2) (mv (s := C.s.setVm vm) X.zw w4) hy hK (g := mkF C.m pc Ls (argsL.reverse ++ .ref a :: st)) rfl (hsz.trans hml.symm) (Steps.refl _) (a := a) (argsL := argsL) (rest := st) (lenOf hd hn) rfl (by show 2 * 0 + _ ≤ _; omega) (X.dec hi)
    (fun _ _ => ⟨rfl, X.eT, hc, hsl⟩)
  obtain ⟨L, r1, r2, r3, r4⟩ := hp
  rw [r2, r3, r4] at S'
  obtain ⟨f1, f2, f3⟩ := hQ v _ L r1
  exact Go.of (fun t u => stp.trans u) (g _ _ v L (X.put S' (N.app f1) hS hk rfl f2 f3) r1)
theorem On.backVt (X : On C R own b ml rt nm q Z a0 EL n0 vm T h k n) {ix W k' n' kc ks : Nat} {y z : MethodName} {Cl : String} {r : Option FieldType} {ps : List FieldType} {QQ : Option Value → Heap → List Loc → Prop} {a : Addr} {argsL sta : List Value} (hi : Ins b pc (.invokevirtual ix) 3 pc')
    (hK : Back C.l R C.p C.e C.below (C.s.setVm vm) C.args z 3 W (fun P a' => a' = (.ref a :: argsL).toArray ∧ P.U.heap = h ∧ P.cells + kc ≤ R.cells ∧ P.slots + ks ≤ R.slots) (fun P _ v B => ∃ L, QQ v B.U.heap L ∧ B.locs = P.locs ++ L ∧ B.cells = P.cells + kc ∧ B.slots = P.slots + ks))
    (hQ : ∀ v h' L, QQ v h' L → Fr n0 L ∧ CHr Z EL vm h vm h' ∧ Old Z n0 h') (E : Exa Z h a Cl) (w1 : (Cond.methodLink own ix y).before a0 Z = true) (w2 : (Cond.declares y).before a0 Z = true) (w5 : (Cond.selects Cl y z).before a0 Z = true) (hnf : NotFace (C.s.setVm vm) y) (w6 : (Cond.instanceMethod z).before a0 Z = true) (hy : y.cls ≠ "java/lang/invoke/MethodHandle" ∧ y.cls ≠ "java/lang/invoke/VarHandle")
    (hd : parseMethodDescriptor y.desc = some ⟨ps, r⟩) (hn : argsL.length = ps.length) (hst : sta = argsL.reverse ++ .ref a :: st) (hsz : Ls.size = ml) (hW : 0 + (st.map fun v => v.category).sum = W)
    (hk' : k + kc = k') (hn' : n + ks = n') (hc : k' ≤ R.cells) (hsl : n' ≤ R.slots)
    (g : ∀ T' h' v L, On C R own b ml rt nm q Z a0 EL n0 vm T' h' k' n' → QQ v h' L → Go C R q Z EL n0 Q T' pc' Ls (v.toList ++ st)) : Go C R q Z EL n0 Q T pc Ls sta := by
  subst hst hk' hn'
  obtain ⟨-, rfl⟩ := id hi
  obtain ⟨⟨k0, locs, S, N, hS, hk⟩, -, -, -, hml, -⟩ := id X
  obtain ⟨cB, kB, q1, q2, q3⟩ := isOf (s := C.s.setVm vm) X.zw X.eT E
  obtain ⟨v, vm1, B, -, S', hp, stp⟩ := S.virtualBack X.exec (y := y) (z := z) X.owned (mv (s := C.s.setVm vm) X.zw w1) (mv (s := C.s.setVm vm) X.zw w2) hnf (mv (s := C.s.setVm vm) X.zw w5) (mv (s := C.s.setVm vm) X.zw w6) hy hK q1 q3 (g := mkF C.m pc Ls (argsL.reverse ++ .ref a :: st)) rfl (hsz.trans hml.symm) (Steps.refl _) (argsL := argsL) (rest := st) (lenOf hd hn) rfl (by show 2 * 0 + _ ≤ _; omega) (X.dec hi)
    (fun _ _ => ⟨rfl, X.eT, hc, hsl⟩)
  obtain ⟨L, r1, r2, r3, r4⟩ := hp
  rw [r2, r3, r4] at S'
  obtain ⟨f1, f2, f3⟩ := hQ v _ L r1
  exact Go.of (fun t u => stp.trans u) (g _ _ v L (X.put S' (N.app f1) hS hk rfl f2 f3) r1)
end Backs
/-- a Latin-1 String and its byte[] -/
def Str (Z : State) (h : Heap) (x t : Addr) (kb : ClassId) (cs : List Int32) : Prop :=
  Exa Z h x "java/lang/String" ∧ Fld Z h x "java/lang/String" "value" "[B" (.ref t) ∧ Fld Z h x "java/lang/String" "coder" "B" (.int 0) ∧ Arv Z h t kb .byte (Int32.ofNat cs.length) (cs.map fun c => Value.int c.toInt8.toInt32) (.int 0) ∧ ∀ c ∈ cs, ¬ c < 0 ∧ ¬ (255 : Int32) < c
section Strs
variable {Z : State} {h h' : Heap} {x t a : Addr} {kb : ClassId} {cs : List Int32} {ws : List Addr} {sl : Nat} {v : Value}
theorem Str.ext (F : Str Z h x t kb cs) (E : Ext h h') : Str Z h' x t kb cs := ⟨F.1.ext E, F.2.1.ext E, F.2.2.1.ext E, F.2.2.2.1.ext E, F.2.2.2.2⟩
theorem Str.keep (F : Str Z h x t kb cs) (K : Keep h h' ws) (hx : x ∉ ws) (ht : t ∉ ws) : Str Z h' x t kb cs := ⟨F.1.keep K, F.2.1.keep K hx, F.2.2.1.keep K hx, F.2.2.2.1.keep K ht, F.2.2.2.2⟩
theorem Str.wr (F : Str Z h x t kb cs) (W : Wr h h' a sl v) (hx : x ≠ a) (ht : t ≠ a) : Str Z h' x t kb cs := ⟨F.1.wr W, F.2.1.other W (Or.inl hx), F.2.2.1.other W (Or.inl hx), F.2.2.2.1.other W ht, F.2.2.2.2⟩
theorem Str.lt (F : Str Z h x t kb cs) : x < h.size := F.1.lt
theorem Str.ltT (F : Str Z h x t kb cs) : t < h.size := F.2.2.2.1.lt
theorem own_all0 : ∀ c ∈ ([] : List Int32), ¬ c < 0 ∧ ¬ (255 : Int32) < c := fun _ z => nomatch z
theorem own_allS {c : Int32} {l : List Int32} (p : ¬ c < 0 ∧ ¬ (255 : Int32) < c) (r : ∀ x ∈ l, ¬ x < 0 ∧ ¬ (255 : Int32) < x) : ∀ x ∈ c :: l, ¬ x < 0 ∧ ¬ (255 : Int32) < x := fun x hx => (List.mem_cons.mp hx).elim (fun e => e ▸ p) (r x)
theorem own_and255 (x : Int32) : ¬ (x &&& (255 : Int32)) < 0 ∧ ¬ (255 : Int32) < (x &&& (255 : Int32)) := by
  have q := c_and x 255 (by decide)
  have e : (255 : Int32).toInt = 255 := by decide
  have e0 : (0 : Int32).toInt = 0 := by decide
  rw [e] at q
  constructor
  · intro z; have := Int32.lt_iff_toInt_lt.mp z; omega
  · intro z; have := Int32.lt_iff_toInt_lt.mp z; omega
theorem sf_nil {EL : List (String × Nat)} {vm : Vm} : ∀ x ∈ ([] : List Addr), Safe Z EL vm h x ∧ x < h.size := fun _ z => nomatch z
theorem sf_cons {EL : List (String × Nat)} {vm : Vm} {l : List Addr} (p : Safe Z EL vm h x ∧ x < h.size) (r : ∀ x ∈ l, Safe Z EL vm h x ∧ x < h.size) : ∀ y ∈ x :: l, Safe Z EL vm h y ∧ y < h.size := fun y hy => (List.mem_cons.mp hy).elim (fun e => e ▸ p) (r y)
theorem up16 {c : Int32} (hc : ¬ c < 0 ∧ ¬ (255 : Int32) < c) : ¬ c < 0 ∧ ¬ (65535 : Int32) < c := ⟨hc.1, fun z => hc.2 (Int32.lt_trans (by decide) z)⟩
end Strs
end Jvm.Own
namespace Jvm.Own
open Jvm Jvm.ClassFile Sem Op Lib Jvm.Free Jvm.Stand Jvm.LawKit Jvm.RoadKit Bundle
/-! ### String constants -/
section Ldc
variable {C : Cx} {R : Room} {own : String} {b : ByteArray} {ml : Nat} {rt : Option FieldType} {nm : String} {q : Bool} {Z : State} {a0 : Array Value} {EL : List (String × Nat)} {n0 : Nat} {vm : Vm} {T : State} {h : Heap} {k n : Nat} {Q : Option Value → Heap → Prop} {pc pc' pt : Nat} {Ls Ls' : Array Slot} {st : List Value}
theorem On.ldcS (X : On C R own b ml rt nm q Z a0 EL n0 vm T h k n) (hq : q = false) {ix k' n' nn : Nat} {text : String} {cs : List Int32} (hi : Ins b pc (.ldc ix) 2 pc') (w : (Cond.stringLink own ix text).before a0 Z = true) (wS : ∀ a ∈ Bundle.stringAtoms, a.before a0 Z = true) (hmem : (own, ix) ∈ EL)
    (h1 : ∀ c ∈ text.toList, c.toNat < 256) (h2 : text.toList.map (fun c => Value.int (Jvm.Lit.byteI c.toNat.toUInt16)) = cs.map fun c => Value.int c.toInt8.toInt32) (h3 : ∀ c ∈ cs, ¬ c < 0 ∧ ¬ (255 : Int32) < c) (h4 : cs.length ≤ 4000) (h5 : 4 * text.toList.length ≤ nn) (h6 : nn ≤ 536870912)
    (hk' : k + 2 = k') (hn' : n + (nn + 4) = n') (hc : k' ≤ R.cells) (hsl : n' ≤ R.slots)
    (g : ∀ vm' T' h' a t kb, On C R own b ml rt nm q Z a0 EL n0 vm' T' h' k' n' → Ext h h' → CHr Z EL vm h vm' h' → Str Z h' a t kb cs → (∀ x, Safe Z EL vm' h' x → x ≠ a ∧ x ≠ t) → Go C R q Z EL n0 Q T' pc' Ls (.ref a :: st)) : Go C R q Z EL n0 Q T pc Ls st := by
  subst hk' hn' hq
  obtain ⟨-, rfl⟩ := id hi
  obtain ⟨⟨k0, locs, S, N, hS, hk⟩, -⟩ := id X
  have hz : ¬ (Int32.ofNat cs.length) < 0 := by
    intro z
    have z1 := Int32.lt_iff_toInt_lt.mp z
    have e1 : (Int32.ofNat cs.length).toInt = cs.length := Int32.toInt_ofNat_small (by omega)
    have e2 : (0 : Int32).toInt = 0 := by decide
    omega
  have hl : (Int32.ofNat cs.length).toNatClampNeg = (cs.map fun c => Value.int c.toInt8.toInt32).length := by
    have e1 : (Int32.ofNat cs.length).toInt = cs.length := Int32.toInt_ofNat_small (by omega)
    rw [List.length_map]
    show (Int32.ofNat cs.length).toInt.toNat = _
    rw [e1]; rfl
  obtain ⟨a, T', h', k1, t, kb, S', e', E', hS', hk1, hZ', ho', A1, A2, A3, A4, -, -, hC, -, hne, st'⟩ := ldcCH S X.exec X.zw X.owned w wS X.eT hS hk X.ew hmem X.chv ⟨h1, h2⟩ hz hl (g := mkF C.m pc Ls st) rfl (X.dec hi) h5 h6 hc hsl
  refine Go.of st' (g T'.vm T' h' a t kb ?_ E' hC ⟨A1, A3, A2, A4, h3⟩ hne)
  obtain ⟨-, -, e2, e3, e4, e5, e6, e7, -, -, e10, e11, -, e13⟩ := X
  exact ⟨⟨k1, locs, S', N, hS', hk1⟩, e', e2, e3, e4, e5, e6, e7, hZ', ho', e10, e11.trans hC, (fun z => nomatch z), e13.ext E'⟩
theorem On.instNull (X : On C R own b ml rt nm q Z a0 EL n0 vm T h k n) {ix : Nat} (hi : Ins b pc (.instanceof ix) 3 pc') (g : Go C R q Z EL n0 Q T pc' Ls (.int 0 :: st)) : Go C R q Z EL n0 Q T pc Ls (.null :: st) := by
  obtain ⟨-, rfl⟩ := id hi
  obtain ⟨⟨k0, locs, S, N, hS, hk⟩, -⟩ := id X
  exact Go.of (S.instanceofNull X.exec (g := mkF C.m pc Ls (.null :: st)) rfl rfl (X.dec hi)) g
theorem On.castNull (X : On C R own b ml rt nm q Z a0 EL n0 vm T h k n) {ix : Nat} (hi : Ins b pc (.checkcast ix) 3 pc') (g : Go C R q Z EL n0 Q T pc' Ls (.null :: st)) : Go C R q Z EL n0 Q T pc Ls (.null :: st) := by
  obtain ⟨-, rfl⟩ := id hi
  obtain ⟨⟨k0, locs, S, N, hS, hk⟩, -⟩ := id X
  exact Go.of (S.checkcastNull X.exec (g := mkF C.m pc Ls (.null :: st)) rfl rfl (X.dec hi)) g
end Ldc
section Kinds
variable {Z : State} {a0 : Array Value}
theorem nsRoot {O K : String} {nk : Nat} (w : (Cond.noSuperclass O).before a0 Z = true) (wk : (Cond.instantiable K nk).before a0 Z = true) (hn : O ≠ K) : NS Z O K := by
  obtain ⟨c, k, h1, h2, h3, -, -⟩ := Cond.noSuperclass_spec w
  obtain ⟨t, kt, g1, -⟩ := Cond.instantiable_spec wk
  have ne := ids_ne h1 g1 hn
  refine ⟨c, t, h1, g1, fun fuel => ?_⟩
  cases fuel with
  | zero => rfl
  | succ f => simp [Vm.isSubclassAux, ne, h2, h3]
theorem nsNo {Cl K : String} {nc nk : Nat} (wc : (Cond.instantiable Cl nc).before a0 Z = true) (wk : (Cond.instantiable K nk).before a0 Z = true) (N : NS Z Cl K) (hn : Cl ≠ K) : ∃ c t, Z.vm.findClass Cl = some c ∧ Z.vm.findClass K = some t ∧ Z.vm.assignable c t = false := by
  obtain ⟨c, t, h0, g0, n3⟩ := N
  obtain ⟨c', kc, a1, a2, a3, -⟩ := Cond.instantiable_spec wc
  cases h0.symm.trans a1
  obtain ⟨t', kt, b1, b2, b3, b4, -⟩ := Cond.instantiable_spec wk
  cases g0.symm.trans b1
  have ne := ids_ne h0 g0 hn
  have b5 : kt.isInterface = false := (Bool.or_eq_false_iff.mp b4).1
  refine ⟨c, t, h0, g0, ?_⟩
  show Z.vm.assignableAux (255 + 1) c t = false
  simp [Vm.assignableAux, ne, a2, b2, a3, b3, b5, Vm.isSubclass, n3]
end Kinds
end Jvm.Own
/- laws to paste: Road.backV (cut by pick.py; bodies as the Statement names them) -/
namespace Jvm.Pilot.@@N@@
namespace StrChars
open Jvm Sem ClassFile Op Lib Jvm.Stand Jvm.Free.XT Jvm.Free.ALB Jvm.Free.JM Jvm.Free
open Jvm.Lib.Cold (StaticIs)
/-- a char array whose places are chars -/
def Ch (a : Addr) (A : Cell) (U : State) : Prop := Arr .char a A U ∧ Typed .char A
theorem Ch.mv {a : Addr} {A : Cell} {U U' : State} (h : Ch a A U) (hal : U.vm.Alike U'.vm) (hh : U'.heap = U.heap) : Ch a A U' := ⟨h.1.mv hal hh, h.2⟩
theorem Ch.keep {a : Addr} {A : Cell} {U U' : State} (h : Ch a A U) (hal : U.vm.Alike U'.vm) (hk : U'.heap[a]? = some A) : Ch a A U' := ⟨h.1.keep hal hk, h.2⟩
/-- what place i of a char[]'s cell holds -/
def cv (A : Cell) (i : Nat) : Int32 := match A.slots[i]? with | some (.int x) => x | _ => 0
theorem Ch.get {a : Addr} {A : Cell} {U : State} (h : Ch a A U) {i : Nat} (hi : i < A.slots.size) : A.slots[i]? = some (.int (cv A i)) := by
  have e := Array.getElem?_eq_getElem hi
  have f := h.2 i _ e
  unfold cv; rw [e]
  generalize A.slots[i] = v at f
  cases v <;> simp [fits] at f ⊢
/-- the byte that i2b leaves of a char -/
def lo8 (x : Int32) : Int32 := x.toInt8.toInt32
theorem fits_lo8 (y : Int32) : fits .byte (.int (lo8 y)) = true := by
  have h1 := y.toInt8.le_toInt
  have h2 := y.toInt8.toInt_lt
  simp only [lo8, fits, Bool.and_eq_true, decide_eq_true_eq, Int32.le_iff_toInt_le, Int8.toInt_toInt32, show (-128 : Int32).toInt = -128 from by decide, show (127 : Int32).toInt = 127 from by decide]
  omega
/-- A' is A but that each place j of lo .. hi - 1 holds f j -/
def Laid (A A' : Cell) (lo hi : Nat) (f : Nat → Value) : Prop := A'.cls = A.cls ∧ A'.vm = A.vm ∧ A'.slots.size = A.slots.size ∧ ∀ i, A'.slots[i]? = if lo ≤ i ∧ i < hi then some (f i) else A.slots[i]?
theorem Laid.zero (A : Cell) (lo : Nat) (f : Nat → Value) : Laid A A lo (lo + 0) f := ⟨rfl, rfl, rfl, fun i => by rw [if_neg (by omega)]⟩
theorem Laid.step {A Ak : Cell} {lo k : Nat} {f : Nat → Value} {v : Value} (h : Laid A Ak lo k f) (hlo : lo ≤ k) (hk : k < Ak.slots.size) (hv : v = f k) : Laid A (Ak.setSlot k v) lo (k + 1) f := by
  refine ⟨h.1, h.2.1, by simpa [Cell.setSlot] using h.2.2.1, fun i => ?_⟩
  by_cases e : k = i
  · subst e; rw [Cell.slots_setSlot_self v hk, if_pos (by omega), hv]
  · rw [Cell.slots_setSlot_ne v e, h.2.2.2 i]
    by_cases q : lo ≤ i ∧ i < k
    · rw [if_pos q, if_pos (by omega)]
    · rw [if_neg q, if_neg (by omega)]
def U16 : String := "java/lang/StringUTF16"
namespace Cmp5
def yN : MethodName := ⟨"java/lang/StringUTF16", "compress", "([CI[BII)I"⟩
abbrev yB : ByteArray := jdk_52_method_21_code
theorem d0 : decode yB 0 = .ok (.iconst 0, 1) := by decide +kernel
theorem d1 : decode yB 1 = .ok (.istore 5, 2) := by decide +kernel
theorem d3 : decode yB 3 = .ok (.iload 5, 2) := by decide +kernel
theorem d5 : decode yB 5 = .ok (.iload 4, 2) := by decide +kernel
theorem d7 : decode yB 7 = .ok (.if_icmp (.ge) 37, 3) := by decide +kernel
theorem d10 : decode yB 10 = .ok (.aload_n 0, 1) := by decide +kernel
theorem d11 : decode yB 11 = .ok (.iload_n 1, 1) := by decide +kernel
theorem d12 : decode yB 12 = .ok (.caload, 1) := by decide +kernel
theorem d13 : decode yB 13 = .ok (.istore 6, 2) := by decide +kernel
theorem d15 : decode yB 15 = .ok (.iload 6, 2) := by decide +kernel
theorem d17 : decode yB 17 = .ok (.sipush 255, 3) := by decide +kernel
theorem d20 : decode yB 20 = .ok (.if_icmp (.le) 6, 3) := by decide +kernel
theorem d26 : decode yB 26 = .ok (.aload_n 2, 1) := by decide +kernel
theorem d27 : decode yB 27 = .ok (.iload_n 3, 1) := by decide +kernel
theorem d28 : decode yB 28 = .ok (.iload 6, 2) := by decide +kernel
theorem d30 : decode yB 30 = .ok (.i2b, 1) := by decide +kernel
theorem d31 : decode yB 31 = .ok (.bastore, 1) := by decide +kernel
theorem d32 : decode yB 32 = .ok (.iinc 1 1, 3) := by decide +kernel
theorem d35 : decode yB 35 = .ok (.iinc 3 1, 3) := by decide +kernel
theorem d38 : decode yB 38 = .ok (.iinc 5 1, 3) := by decide +kernel
theorem d41 : decode yB 41 = .ok (.goto (-38), 3) := by decide +kernel
theorem d44 : decode yB 44 = .ok (.iload 4, 2) := by decide +kernel
theorem d46 : decode yB 46 = .ok (.ireturn, 1) := by decide +kernel
def site : List Cond := []
def tab : Cond := tabOf yN yB 7 (some .int) site
def P (b : Addr) (A : Cell) (d : Addr) (B : Cell) (o q len : Nat) (args : Array Value) (s : State) : Prop := args = #[.ref b, .int (Int32.ofNat o), .ref d, .int (Int32.ofNat q), .int (Int32.ofNat len)] ∧ Ch b A s ∧ Arr .byte d B s ∧ b ≠ d ∧ o + len ≤ A.slots.size ∧ q + len ≤ B.slots.size ∧ ∀ i, i < len → ¬ 255 < cv A (o + i)
def E (b : Addr) (A : Cell) (d : Addr) (B : Cell) (o q len : Nat) (r : Option Value) (s u : State) : Prop := r = some (.int (Int32.ofNat len)) ∧ ∃ B', Put d B' s u ∧ Laid B B' q (q + len) (fun j => Value.int (lo8 (cv A (o + (j - q)))))
/-- no char of the range above 255: len; the places written hold each char's low byte -/
theorem law (l : Launch) (b : Addr) (A : Cell) (d : Addr) (B : Cell) (o q len : Nat) : Law l yN 5 5 0 0 yB 7 (some .int) site (P b A d B o q len) (E b A d B o q len) (copyLocs d q len) 0 0 := by
  refine Law.of_walk (plainFor_of_name (by decide +kernel)) (by decide +kernel) (by decide +kernel) (by decide) (fun _ _ h => by rw [h.1]; rfl) (fun _ U U' hal hh h => ⟨h.1, h.2.1.mv hal hh, h.2.2.1.mv hal hh, h.2.2.2⟩) (fun r U U' V V' h1 hal h2 h => ⟨h.1, h.2.elim fun B' q => ⟨B', q.1.mv h1 h2, q.2⟩⟩) ?_
  intro p e s m args below meth c s₁ X0 hexec hbytes hml hret hlk hnm hown hh0 W hP
  obtain ⟨rfl, hA, hB, hne, l1, l2, hp⟩ := hP
  have c1 : Steps p.tables e below (s₁.setTop (entryFrame m #[.ref b, .int (Int32.ofNat o), .ref d, .int (Int32.ofNat q), .int (Int32.ofNat len)] 7)) (s₁.setTop (mkF m 0 #[.val (.ref b), .val (.int (Int32.ofNat o)), .val (.ref d), .val (.int (Int32.ofNat q)), .val (.int (Int32.ofNat len)), .unset, .unset] [])) := entry rfl
  have hA0 := hA.1.mv X0.warmed.alike hh0
  have hB0 := hB.mv X0.warmed.alike hh0
  have a31 := hA.1.2.2.2
  have c2 : Steps p.tables e below (s₁.setTop (entryFrame m #[.ref b, .int (Int32.ofNat o), .ref d, .int (Int32.ofNat q), .int (Int32.ofNat len)] 7)) (s₁.setTop (mkF m 3 #[.val (.ref b), .val (.int (Int32.ofNat o)), .val (.ref d), .val (.int (Int32.ofNat q)), .val (.int (Int32.ofNat len)), .val (.int 0), .unset] [])) := c1.trans (by
    refine iconstV X0.here hexec rfl 0 (hb hbytes d0) (by decide) ?_
    refine XS.istore X0.here hexec rfl (hb hbytes d1) rfl rfl ?_
    exact Steps.refl _)
  have loop : ∀ (r i : Nat), i + r = len → ∀ (z : Slot), (z = .unset ∨ ∃ w, z = .val w ∧ w.category = 1) → ∀ (Tl : State) (Bk : Cell), Stand p l e { frames := 0, locals := 0, cells := 0, slots := 0 } s m #[.ref b, .int (Int32.ofNat o), .ref d, .int (Int32.ofNat q), .int (Int32.ofNat len)] below meth c Tl ([] ++ copyLocs d q i) 0 0 → Put d Bk s₁ Tl → Laid B Bk q (q + i) (fun j => Value.int (lo8 (cv A (o + (j - q))))) →
      Steps p.tables e below (s₁.setTop (entryFrame m #[.ref b, .int (Int32.ofNat o), .ref d, .int (Int32.ofNat q), .int (Int32.ofNat len)] 7)) (Tl.setTop (mkF m 3 #[.val (.ref b), .val (.int (Int32.ofNat (o + i))), .val (.ref d), .val (.int (Int32.ofNat (q + i))), .val (.int (Int32.ofNat len)), .val (.int (Int32.ofNat i)), z] [])) → ∃ (T' : State) (B' : Cell) (z' : Slot), Stand p l e { frames := 0, locals := 0, cells := 0, slots := 0 } s m #[.ref b, .int (Int32.ofNat o), .ref d, .int (Int32.ofNat q), .int (Int32.ofNat len)] below meth c T' ([] ++ copyLocs d q len) 0 0 ∧ Put d B' s₁ T' ∧ Laid B B' q (q + len) (fun j => Value.int (lo8 (cv A (o + (j - q))))) ∧
      Steps p.tables e below (s₁.setTop (entryFrame m #[.ref b, .int (Int32.ofNat o), .ref d, .int (Int32.ofNat q), .int (Int32.ofNat len)] 7)) (T'.setTop (mkF m 3 #[.val (.ref b), .val (.int (Int32.ofNat (o + len))), .val (.ref d), .val (.int (Int32.ofNat (q + len))), .val (.int (Int32.ofNat len)), .val (.int (Int32.ofNat len)), z'] [])) := by
    intro r
    induction r with
    | zero =>
      intro i hi z hz Tl Bk Xl pl fl cl
      have hil : i = len := by omega
      rw [hil] at Xl fl cl
      exact ⟨Tl, Bk, z, Xl, pl, fl, cl⟩
    | succ r ih =>
      intro i hi z hz Tl Bk Xl pl fl cl
      have all := X0.warmed.alike.symm.trans Xl.warmed.alike
      have hAl := hA0.keep all (pl.other hne hA0.1)
      have hBk := hB0.like all pl.1 fl.1 fl.2.1 fl.2.2.1
      have hlt : q + i < Bk.slots.size := by rw [fl.2.2.1]; omega
      have c3 : Steps p.tables e below (s₁.setTop (entryFrame m #[.ref b, .int (Int32.ofNat o), .ref d, .int (Int32.ofNat q), .int (Int32.ofNat len)] 7)) (Tl.setTop (mkF m 12 #[.val (.ref b), .val (.int (Int32.ofNat (o + i))), .val (.ref d), .val (.int (Int32.ofNat (q + i))), .val (.int (Int32.ofNat len)), .val (.int (Int32.ofNat i)), z] [.int (Int32.ofNat (o + i)), .ref b])) := cl.trans (by
        refine XS.iload Xl.here hexec rfl (hb hbytes d3) rfl ?_
        refine XS.iload Xl.here hexec rfl (hb hbytes d5) rfl ?_
        refine XS.icmpNo Xl.here hexec rfl (hb hbytes d7) rfl (ii_ge_f (lt32 (by omega) (by omega))) ?_
        refine XS.aloadN Xl.here hexec rfl (hb hbytes d10) rfl rfl ?_
        refine XS.iloadN Xl.here hexec rfl (hb hbytes d11) rfl ?_
        exact Steps.refl _)
      have c4 : Steps p.tables e below (s₁.setTop (entryFrame m #[.ref b, .int (Int32.ofNat o), .ref d, .int (Int32.ofNat q), .int (Int32.ofNat len)] 7)) (Tl.setTop (mkF m 13 #[.val (.ref b), .val (.int (Int32.ofNat (o + i))), .val (.ref d), .val (.int (Int32.ofNat (q + i))), .val (.int (Int32.ofNat len)), .val (.int (Int32.ofNat i)), z] [.int (cv A (o + i))])) := c3.trans (by
        refine Xl.aget hexec hAl rfl (hA.get (i := o + i) (by omega)) rfl rfl (hb hbytes d12) ?_
        exact Steps.refl _)
      have c5 : Steps p.tables e below (s₁.setTop (entryFrame m #[.ref b, .int (Int32.ofNat o), .ref d, .int (Int32.ofNat q), .int (Int32.ofNat len)] 7)) (Tl.setTop (mkF m 15 #[.val (.ref b), .val (.int (Int32.ofNat (o + i))), .val (.ref d), .val (.int (Int32.ofNat (q + i))), .val (.int (Int32.ofNat len)), .val (.int (Int32.ofNat i)), .val (.int (cv A (o + i)))] [])) := c4.trans (by
        refine XS.istoreS Xl.here hexec rfl (hb hbytes d13) rfl rfl hz ?_
        exact Steps.refl _)
      have c6 : Steps p.tables e below (s₁.setTop (entryFrame m #[.ref b, .int (Int32.ofNat o), .ref d, .int (Int32.ofNat q), .int (Int32.ofNat len)] 7)) (Tl.setTop (mkF m 31 #[.val (.ref b), .val (.int (Int32.ofNat (o + i))), .val (.ref d), .val (.int (Int32.ofNat (q + i))), .val (.int (Int32.ofNat len)), .val (.int (Int32.ofNat i)), .val (.int (cv A (o + i)))] [.int (lo8 (cv A (o + i))), .int (Int32.ofNat (q + i)), .ref d])) := c5.trans (by
        refine XS.iload Xl.here hexec rfl (hb hbytes d15) rfl ?_
        refine sipushV Xl.here hexec rfl 255 (hb hbytes d17) (by decide) ?_
        refine XS.icmpYes Xl.here hexec rfl (pc0 := 20) rfl (hb hbytes d20) rfl (ii_le_t (hp i (by omega))) (by decide) rfl ?_
        refine XS.aloadN Xl.here hexec rfl (hb hbytes d26) rfl rfl ?_
        refine XS.iloadN Xl.here hexec rfl (hb hbytes d27) rfl ?_
        refine XS.iload Xl.here hexec rfl (hb hbytes d28) rfl ?_
        refine i2b Xl.here hexec rfl (hb hbytes d30) rfl ?_
        exact Steps.refl _)
      obtain ⟨T7, X7, p7, st7⟩ := Xl.aput hexec hBk rfl hlt rfl (fits_lo8 (cv A (o + i))) (g := (mkF m 31 #[.val (.ref b), .val (.int (Int32.ofNat (o + i))), .val (.ref d), .val (.int (Int32.ofNat (q + i))), .val (.int (Int32.ofNat len)), .val (.int (Int32.ofNat i)), .val (.int (cv A (o + i)))] [.int (lo8 (cv A (o + i))), .int (Int32.ofNat (q + i)), .ref d])) rfl (rest := []) rfl (hb hbytes d31)
      have c8 : Steps p.tables e below (s₁.setTop (entryFrame m #[.ref b, .int (Int32.ofNat o), .ref d, .int (Int32.ofNat q), .int (Int32.ofNat len)] 7)) (T7.setTop (mkF m 32 #[.val (.ref b), .val (.int (Int32.ofNat (o + i))), .val (.ref d), .val (.int (Int32.ofNat (q + i))), .val (.int (Int32.ofNat len)), .val (.int (Int32.ofNat i)), .val (.int (cv A (o + i)))] [])) := c6.trans (st7 _ (Steps.refl _))
      have c9 : Steps p.tables e below (s₁.setTop (entryFrame m #[.ref b, .int (Int32.ofNat o), .ref d, .int (Int32.ofNat q), .int (Int32.ofNat len)] 7)) (T7.setTop (mkF m 3 #[.val (.ref b), .val (.int (Int32.ofNat (o + i) + 1)), .val (.ref d), .val (.int (Int32.ofNat (q + i) + 1)), .val (.int (Int32.ofNat len)), .val (.int (Int32.ofNat i + 1)), .val (.int (cv A (o + i)))] [])) := c8.trans (by
        refine iincV X7.here hexec rfl 1 (hb hbytes d32) (by decide) rfl rfl ?_
        refine iincV X7.here hexec rfl 1 (hb hbytes d35) (by decide) rfl rfl ?_
        refine iincV X7.here hexec rfl 1 (hb hbytes d38) (by decide) rfl rfl ?_
        refine XS.goto X7.here hexec rfl (pc0 := 41) rfl (hb hbytes d41) (by decide) rfl ?_
        exact Steps.refl _)
      have c10 : Steps p.tables e below (s₁.setTop (entryFrame m #[.ref b, .int (Int32.ofNat o), .ref d, .int (Int32.ofNat q), .int (Int32.ofNat len)] 7)) (T7.setTop (mkF m 3 #[.val (.ref b), .val (.int (Int32.ofNat (o + (i + 1)))), .val (.ref d), .val (.int (Int32.ofNat (q + (i + 1)))), .val (.int (Int32.ofNat len)), .val (.int (Int32.ofNat (i + 1))), .val (.int (cv A (o + i)))] [])) := by
        have := c9
        rw [succ32, succ32, succ32] at this
        exact this
      exact ih (i + 1) (by omega) _ (Or.inr ⟨_, rfl, rfl⟩) T7 _ (by rw [copyLocs_step, ← List.append_assoc]; exact X7) (pl.trans p7) (fl.step (by omega) hlt (by simp)) c10
  obtain ⟨T9, B9, z9, X9, p9, f9, g9⟩ := loop len 0 (by omega) .unset (Or.inl rfl) s₁ B (by simpa [copyLocs] using X0) ⟨hB0.1, fun _ _ => rfl, rfl⟩ (Laid.zero _ _ _) c2
  have c11 : Steps p.tables e below (s₁.setTop (entryFrame m #[.ref b, .int (Int32.ofNat o), .ref d, .int (Int32.ofNat q), .int (Int32.ofNat len)] 7)) (T9.setTop (mkF m 46 #[.val (.ref b), .val (.int (Int32.ofNat (o + len))), .val (.ref d), .val (.int (Int32.ofNat (q + len))), .val (.int (Int32.ofNat len)), .val (.int (Int32.ofNat len)), z9] [.int (Int32.ofNat len)])) := g9.trans (by
    refine XS.iload X9.here hexec rfl (hb hbytes d3) rfl ?_
    refine XS.iload X9.here hexec rfl (hb hbytes d5) rfl ?_
    refine XS.icmpYes X9.here hexec rfl (pc0 := 7) rfl (hb hbytes d7) rfl (ii_ge_t (nlt32 (by omega) (Nat.le_refl _))) (by decide) rfl ?_
    refine XS.iload X9.here hexec rfl (hb hbytes d44) rfl ?_
    exact Steps.refl _)
  exact ⟨T9, some (.int (Int32.ofNat len)), _, _, _, X9, by simp, rfl, rfl, (fun h => by cases h), ⟨rfl, B9, p9.from hh0, f9⟩, fun fs hl => c11.trans (X9.ireturnOut hexec hret rfl (Or.inl rfl) (hb hbytes d46) hl)⟩
end Cmp5
namespace Cmp3
def yN : MethodName := ⟨"java/lang/StringUTF16", "compress", "([CII)[B"⟩
abbrev yB : ByteArray := jdk_52_method_16_code
theorem d0 : decode yB 0 = .ok (.iload_n 2, 1) := by decide +kernel
theorem d1 : decode yB 1 = .ok (.newarray .byte, 2) := by decide +kernel
theorem d3 : decode yB 3 = .ok (.astore_n 3, 1) := by decide +kernel
theorem d4 : decode yB 4 = .ok (.aload_n 0, 1) := by decide +kernel
theorem d5 : decode yB 5 = .ok (.iload_n 1, 1) := by decide +kernel
theorem d6 : decode yB 6 = .ok (.aload_n 3, 1) := by decide +kernel
theorem d7 : decode yB 7 = .ok (.iconst 0, 1) := by decide +kernel
theorem d8 : decode yB 8 = .ok (.iload_n 2, 1) := by decide +kernel
theorem d9 : decode yB 9 = .ok (.invokestatic 115, 3) := by decide +kernel
theorem d12 : decode yB 12 = .ok (.istore 4, 2) := by decide +kernel
theorem d14 : decode yB 14 = .ok (.iload 4, 2) := by decide +kernel
theorem d16 : decode yB 16 = .ok (.iload_n 2, 1) := by decide +kernel
theorem d17 : decode yB 17 = .ok (.if_icmp (.eq) 40, 3) := by decide +kernel
theorem d57 : decode yB 57 = .ok (.aload_n 3, 1) := by decide +kernel
theorem d58 : decode yB 58 = .ok (.areturn, 1) := by decide +kernel
def site : List Cond := [.arrayClass .byte, Cmp5.tab] ++ staticW U16 115 Cmp5.yN
def tab : Cond := tabOf yN yB 6 (some (.array .byte)) site
def P (b : Addr) (A : Cell) (o len : Nat) (args : Array Value) (s : State) : Prop := args = #[.ref b, .int (Int32.ofNat o), .int (Int32.ofNat len)] ∧ Ch b A s ∧ o + len ≤ A.slots.size ∧ len ≤ 536870912 ∧ ∀ i, i < len → ¬ 255 < cv A (o + i)
def E (b : Addr) (A : Cell) (o len : Nat) (r : Option Value) (s u : State) : Prop := NewArr .byte "[B" len (fun j => .int (lo8 (cv A (o + j)))) r s u ∧ u.heap.size = s.heap.size + 1
/-- no char of the range above 255: a new byte[] of their low bytes -/
theorem law (l : Launch) (b : Addr) (A : Cell) (o len : Nat) : Law l yN 3 3 1 18 yB 6 (some (.array .byte)) site (P b A o len) (E b A o len) [] 1 len := by
  refine Law.of_walk (plainFor_of_name (by decide +kernel)) (by decide +kernel) (by decide +kernel) (by decide) (fun _ _ h => by rw [h.1]; rfl) (fun _ U U' hal hh h => ⟨h.1, h.2.1.mv hal hh, h.2.2⟩) (fun r U U' V V' h1 hal h2 h => ⟨NewArr.mv r U U' V V' h1 hal h2 h.1, by rw [h1, h2]; exact h.2⟩) ?_
  intro p e s m args below meth c s₁ X0 hexec hbytes hml hret hlk hnm hown hh0 W hP
  obtain ⟨rfl, hA, l1, l2, hp⟩ := hP
  have a31 := hA.1.2.2.2
  have c1 : Steps p.tables e below (s₁.setTop (entryFrame m #[.ref b, .int (Int32.ofNat o), .int (Int32.ofNat len)] 6)) (s₁.setTop (mkF m 0 #[.val (.ref b), .val (.int (Int32.ofNat o)), .val (.int (Int32.ofNat len)), .unset, .unset, .unset] [])) := entry rfl
  have c2 : Steps p.tables e below (s₁.setTop (entryFrame m #[.ref b, .int (Int32.ofNat o), .int (Int32.ofNat len)] 6)) (s₁.setTop (mkF m 1 #[.val (.ref b), .val (.int (Int32.ofNat o)), .val (.int (Int32.ofNat len)), .unset, .unset, .unset] [.int (Int32.ofNat len)])) := c1.trans (by
    refine XS.iloadN X0.here hexec rfl (hb hbytes d0) rfl ?_
    exact Steps.refl _)
  obtain ⟨T3, B3, X3, ba3, bs3, bv3, bh3, bf3, st3⟩ := X0.anew hexec (atype := .byte) (wk W (.arrayClass .byte)) rfl (by show len * 1 ≤ _; omega) (by omega) (g := (mkF m 1 #[.val (.ref b), .val (.int (Int32.ofNat o)), .val (.int (Int32.ofNat len)), .unset, .unset, .unset] [.int (Int32.ofNat len)])) rfl (hb hbytes d1) (rest := []) rfl (Nat.le_refl _) (by show 0 + len ≤ len; omega)
  rw [hh0] at ba3 st3
  have kp3 : XT.Kept s T3 := (XT.Kept.of_eq hh0).push bh3
  have hA3 := hA.keep X3.warmed.alike (kp3 _ _ hA.1.1)
  have hne : b ≠ s.heap.size := hA.1.ne
  have c4 : Steps p.tables e below (s₁.setTop (entryFrame m #[.ref b, .int (Int32.ofNat o), .int (Int32.ofNat len)] 6)) (T3.setTop (mkF m 3 #[.val (.ref b), .val (.int (Int32.ofNat o)), .val (.int (Int32.ofNat len)), .unset, .unset, .unset] [.ref s.heap.size])) := c2.trans (st3 _ (Steps.refl _))
  have c5 : Steps p.tables e below (s₁.setTop (entryFrame m #[.ref b, .int (Int32.ofNat o), .int (Int32.ofNat len)] 6)) (T3.setTop (mkF m 9 #[.val (.ref b), .val (.int (Int32.ofNat o)), .val (.int (Int32.ofNat len)), .val (.ref s.heap.size), .unset, .unset] [.int (Int32.ofNat len), .int 0, .ref s.heap.size, .int (Int32.ofNat o), .ref b])) := c4.trans (by
    refine XS.astoreN X3.here hexec rfl (hb hbytes d3) rfl rfl rfl ?_
    refine XS.aloadN X3.here hexec rfl (hb hbytes d4) rfl rfl ?_
    refine XS.iloadN X3.here hexec rfl (hb hbytes d5) rfl ?_
    refine XS.aloadN X3.here hexec rfl (hb hbytes d6) rfl rfl ?_
    refine iconstV X3.here hexec rfl 0 (hb hbytes d7) (by decide) ?_
    refine XS.iloadN X3.here hexec rfl (hb hbytes d8) rfl ?_
    exact Steps.refl _)
  obtain ⟨v6, T6, X6, E6, g6⟩ := X3.callS hexec (Cmp5.law l b A s.heap.size B3 o 0 len) hown (wks W (staticW U16 115 Cmp5.yN)) (wk W Cmp5.tab) (W := 0) (Nat.le_of_ble_eq_true rfl) (Nat.le_of_ble_eq_true rfl) (Nat.le_refl _) (by show 0 + len + 0 ≤ len; omega) (g := (mkF m 9 #[.val (.ref b), .val (.int (Int32.ofNat o)), .val (.int (Int32.ofNat len)), .val (.ref s.heap.size), .unset, .unset] [.int (Int32.ofNat len), .int (Int32.ofNat 0), .ref s.heap.size, .int (Int32.ofNat o), .ref b])) rfl (by rw [hml]; rfl) c5 (argsL := [.ref b, .int (Int32.ofNat o), .ref s.heap.size, .int (Int32.ofNat 0), .int (Int32.ofNat len)]) (rest := []) rfl rfl (by show 2 * 0 + 0 ≤ _; decide) (hb hbytes d9) (⟨rfl, hA3, ba3, hne, l1, by rw [bs3]; simp, hp⟩)
  obtain ⟨rfl, B6, p6, f6⟩ := E6
  have c7 : Steps p.tables e below (s₁.setTop (entryFrame m #[.ref b, .int (Int32.ofNat o), .int (Int32.ofNat len)] 6)) (T6.setTop (mkF m 12 #[.val (.ref b), .val (.int (Int32.ofNat o)), .val (.int (Int32.ofNat len)), .val (.ref s.heap.size), .unset, .unset] [.int (Int32.ofNat len)])) := g6
  have c8 : Steps p.tables e below (s₁.setTop (entryFrame m #[.ref b, .int (Int32.ofNat o), .int (Int32.ofNat len)] 6)) (T6.setTop (mkF m 58 #[.val (.ref b), .val (.int (Int32.ofNat o)), .val (.int (Int32.ofNat len)), .val (.ref s.heap.size), .val (.int (Int32.ofNat len)), .unset] [.ref s.heap.size])) := c7.trans (by
    refine XS.istore X6.here hexec rfl (hb hbytes d12) rfl rfl ?_
    refine XS.iload X6.here hexec rfl (hb hbytes d14) rfl ?_
    refine XS.iloadN X6.here hexec rfl (hb hbytes d16) rfl ?_
    refine XS.icmpYes X6.here hexec rfl (pc0 := 17) rfl (hb hbytes d17) rfl (ii_eq_t rfl) (by decide) rfl ?_
    refine XS.aloadN X6.here hexec rfl (hb hbytes d57) rfl rfl ?_
    exact Steps.refl _)
  have X8 := X6.wide (L' := []) (cells' := 1) (slots' := len) (fun x hx hlt => by
    simp only [List.nil_append, copyLocs, List.mem_map, List.mem_range] at hx
    obtain ⟨i, -, rfl⟩ := hx
    exact absurd hlt (Nat.lt_irrefl _)) (Nat.le_refl _) (by omega)
  exact ⟨T6, some (.ref s.heap.size), _, _, _, X8, rfl, rfl, rfl, (fun h => by cases h), ⟨⟨rfl, B6, ba3.like (X3.warmed.alike.symm.trans X6.warmed.alike) p6.1 f6.1 f6.2.1 f6.2.2.1, f6.2.1.trans bv3, by rw [X6.warmed.alike.findClass, f6.1]; exact bf3, by rw [f6.2.2.1, bs3]; simp, fun j hj => by rw [f6.2.2.2 j, if_pos (by omega)]; rfl, kp3.put p6 (Nat.le_refl _)⟩, by rw [p6.2.2, bh3, hh0]; simp⟩, fun fs hl => c8.trans (X8.areturnOut hexec rfl hret rfl (hb hbytes d58) hl)⟩
end Cmp3
namespace CodL
def yN : MethodName := ⟨"java/lang/StringUTF16", "coderFromArrayLen", "([BI)B"⟩
abbrev yB : ByteArray := jdk_52_method_15_code
theorem d0 : decode yB 0 = .ok (.iload_n 1, 1) := by decide +kernel
theorem d1 : decode yB 1 = .ok (.aload_n 0, 1) := by decide +kernel
theorem d2 : decode yB 2 = .ok (.arraylength, 1) := by decide +kernel
theorem d3 : decode yB 3 = .ok (.isub, 1) := by decide +kernel
theorem d4 : decode yB 4 = .ok (.bipush 31, 2) := by decide +kernel
theorem d6 : decode yB 6 = .ok (.iushr, 1) := by decide +kernel
theorem d7 : decode yB 7 = .ok (.i2b, 1) := by decide +kernel
theorem d8 : decode yB 8 = .ok (.ireturn, 1) := by decide +kernel
def site : List Cond := []
def tab : Cond := tabOf yN yB 2 (some .byte) site
def P (d : Addr) (B : Cell) (args : Array Value) (s : State) : Prop := args = #[.ref d, .int (Int32.ofNat B.slots.size)] ∧ Arr .byte d B s
def E (r : Option Value) (s u : State) : Prop := XT.PureE (some (.int 0)) r s u
/-- an array as long as the number of chars: LATIN1 -/
theorem law (l : Launch) (d : Addr) (B : Cell) : Law l yN 2 2 0 0 yB 2 (some .byte) site (P d B) E [] 0 0 := by
  refine Law.of_walk (plainFor_of_name (by decide +kernel)) (by decide +kernel) (by decide +kernel) (by decide) (fun _ _ h => by rw [h.1]; rfl) (fun _ U U' hal hh h => ⟨h.1, h.2.mv hal hh⟩) (fun r U U' V V' h1 hal h2 h => XT.PureE.mv r U U' V V' h1 hal h2 h) ?_
  intro p e s m args below meth c s₁ X0 hexec hbytes hml hret hlk hnm hown hh0 W hP
  obtain ⟨rfl, hB⟩ := hP
  have hB0 := hB.mv X0.warmed.alike hh0
  have c1 : Steps p.tables e below (s₁.setTop (entryFrame m #[.ref d, .int (Int32.ofNat B.slots.size)] 2)) (s₁.setTop (mkF m 0 #[.val (.ref d), .val (.int (Int32.ofNat B.slots.size))] [])) := entry rfl
  have c2 : Steps p.tables e below (s₁.setTop (entryFrame m #[.ref d, .int (Int32.ofNat B.slots.size)] 2)) (s₁.setTop (mkF m 2 #[.val (.ref d), .val (.int (Int32.ofNat B.slots.size))] [.ref d, .int (Int32.ofNat B.slots.size)])) := c1.trans (by
    refine XS.iloadN X0.here hexec rfl (hb hbytes d0) rfl ?_
    refine XS.aloadN X0.here hexec rfl (hb hbytes d1) rfl rfl ?_
    exact Steps.refl _)
  have c3 : Steps p.tables e below (s₁.setTop (entryFrame m #[.ref d, .int (Int32.ofNat B.slots.size)] 2)) (s₁.setTop (mkF m 8 #[.val (.ref d), .val (.int (Int32.ofNat B.slots.size))] [.int (lo8 (ushr (Int32.ofNat B.slots.size - Int32.ofNat B.slots.size) 31))])) := c2.trans (by
    refine X0.alen hexec hB0 rfl rfl (hb hbytes d2) ?_
    refine XS.isub X0.here hexec rfl (hb hbytes d3) rfl ?_
    refine bipushV X0.here hexec rfl 31 (hb hbytes d4) (by decide) ?_
    refine iushr X0.here hexec rfl (hb hbytes d6) rfl ?_
    refine i2b X0.here hexec rfl (hb hbytes d7) rfl ?_
    exact Steps.refl _)
  have e0 : lo8 (ushr (Int32.ofNat B.slots.size - Int32.ofNat B.slots.size) 31) = 0 := by rw [Int32.sub_self]; decide
  rw [e0] at c3
  exact ⟨s₁, some (.int 0), _, _, _, X0, rfl, rfl, rfl, (fun h => by cases h), ⟨rfl, hh0⟩, fun fs hl => c3.trans (X0.ireturnOut hexec hret rfl (Or.inr (Or.inr (Or.inl rfl))) (hb hbytes d8) hl)⟩
end CodL
/-- the String at a is Latin-1 over a new byte[] (the heap's one new cell): the low bytes of the len chars of A from o on; every cell but a is kept -/
def Got (a : Addr) (D : Cell) (fV fC : Field) (A : Cell) (o len : Nat) (r : Option Value) (s u : State) : Prop := r = none ∧ ∃ D' V : Cell, Blank "java/lang/String" a D' u ∧ Same D D' [fV.slot, fC.slot] ∧ D'.slots[fV.slot]? = some (.ref s.heap.size) ∧ D'.slots[fC.slot]? = some (.int 0) ∧ Arr .byte s.heap.size V u ∧ V.vm = .none ∧ u.vm.findClass "[B" = some V.cls ∧ V.slots.size = len ∧ (∀ j, j < len → V.slots[j]? = some (.int (lo8 (cv A (o + j))))) ∧ (∀ (y : Addr) (c : Cell), y ≠ a → s.heap[y]? = some c → u.heap[y]? = some c) ∧ u.heap.size = s.heap.size + 1
theorem Got.mv {a : Addr} {D A : Cell} {fV fC : Field} {o len : Nat} : ∀ r (U U' V V' : State), U'.heap = U.heap → V.vm.Alike V'.vm → V'.heap = V.heap → Got a D fV fC A o len r U V → Got a D fV fC A o len r U' V' :=
  fun r U U' V V' h1 hal h2 ⟨e0, D', X, a1, a2, a3, a4, a5, a6, a7, a8, a9, a10, a11⟩ => ⟨e0, D', X, a1.mv hal h2, a2, by rw [h1]; exact a3, a4, by rw [h1]; exact a5.mv hal h2, a6, by rw [hal.findClass]; exact a7, a8, a9, by rw [h1, h2]; exact a10, by rw [h1, h2]; exact a11⟩
namespace New4
def yN : MethodName := ⟨"java/lang/String", "<init>", "([CIILjava/lang/Void;)V"⟩
abbrev yB : ByteArray := jdk_42_method_149_code
theorem d0 : decode yB 0 = .ok (.aload_n 0, 1) := by decide +kernel
theorem d1 : decode yB 1 = .ok (.invokespecial 1, 3) := by decide +kernel
theorem d4 : decode yB 4 = .ok (.iload_n 3, 1) := by decide +kernel
theorem d5 : decode yB 5 = .ok (.ifCond (.ne) 22, 3) := by decide +kernel
theorem d27 : decode yB 27 = .ok (.getstatic 38, 3) := by decide +kernel
theorem d30 : decode yB 30 = .ok (.ifCond (.eq) 28, 3) := by decide +kernel
theorem d33 : decode yB 33 = .ok (.aload_n 1, 1) := by decide +kernel
theorem d34 : decode yB 34 = .ok (.iload_n 2, 1) := by decide +kernel
theorem d35 : decode yB 35 = .ok (.iload_n 3, 1) := by decide +kernel
theorem d36 : decode yB 36 = .ok (.invokestatic 177, 3) := by decide +kernel
theorem d39 : decode yB 39 = .ok (.astore 5, 2) := by decide +kernel
theorem d41 : decode yB 41 = .ok (.aload_n 0, 1) := by decide +kernel
theorem d42 : decode yB 42 = .ok (.aload 5, 2) := by decide +kernel
theorem d44 : decode yB 44 = .ok (.iload_n 3, 1) := by decide +kernel
theorem d45 : decode yB 45 = .ok (.invokestatic 47, 3) := by decide +kernel
theorem d48 : decode yB 48 = .ok (.putfield 15, 3) := by decide +kernel
theorem d51 : decode yB 51 = .ok (.aload_n 0, 1) := by decide +kernel
theorem d52 : decode yB 52 = .ok (.aload 5, 2) := by decide +kernel
theorem d54 : decode yB 54 = .ok (.putfield 9, 3) := by decide +kernel
theorem d57 : decode yB 57 = .ok (.return_, 1) := by decide +kernel
def site : List Cond := [.fieldLink "java/lang/String" 38 "java/lang/String" "COMPACT_STRINGS" "Z", Cmp3.tab, CodL.tab, .laysFinal "java/lang/String" "java/lang/String" "value" "[B", .fieldLink "java/lang/String" 9 "java/lang/String" "value" "[B", .laysFinal "java/lang/String" "java/lang/String" "coder" "B", .fieldLink "java/lang/String" 15 "java/lang/String" "coder" "B"] ++ objW "java/lang/String" 1 ++ staticW "java/lang/String" 177 Cmp3.yN ++ staticW "java/lang/String" 47 CodL.yN
def tab : Cond := tabOf yN yB 6 none site
def P (a : Addr) (D : Cell) (fV fC : Field) (b : Addr) (A : Cell) (z : Int32) (o len : Nat) (args : Array Value) (s : State) : Prop := args = #[.ref a, .ref b, .int (Int32.ofNat o), .int (Int32.ofNat len), .null] ∧ Blank "java/lang/String" a D s ∧ Found "java/lang/String" "value" "[B" fV s ∧ Found "java/lang/String" "coder" "B" fC s ∧ Ch b A s ∧ StaticIs s "java/lang/String" "COMPACT_STRINGS" "Z" (.int z) ∧ ¬ z = 0 ∧ 0 < len ∧ o + len ≤ A.slots.size ∧ len ≤ 536870912 ∧ ∀ i, i < len → ¬ 255 < cv A (o + i)
def E (a : Addr) (D : Cell) (fV fC : Field) (A : Cell) (o len : Nat) (r : Option Value) (s u : State) : Prop := Got a D fV fC A o len r s u
/-- len > 0, no char of the range above 255: a Latin-1 String of their low bytes -/
theorem law (l : Launch) (a : Addr) (D : Cell) (fV fC : Field) (b : Addr) (A : Cell) (z : Int32) (o len : Nat) : Law l yN 5 4 2 35 yB 6 none site (P a D fV fC b A z o len) (E a D fV fC A o len) [⟨a, fC.slot⟩, ⟨a, fV.slot⟩] 1 len := by
  refine Law.of_walk (plainFor_of_name (by decide +kernel)) (by decide +kernel) (by decide +kernel) (by decide) (fun _ _ h => by rw [h.1]; rfl) (fun _ U U' hal hh h => ⟨h.1, h.2.1.mv hal hh, h.2.2.1.al hal, h.2.2.2.1.al hal, h.2.2.2.2.1.mv hal hh, h.2.2.2.2.2.1.there hal hh, h.2.2.2.2.2.2⟩) (fun r U U' V V' h1 hal h2 h => Got.mv r U U' V V' h1 hal h2 h) ?_
  intro p e s m args below meth c s₁ X0 hexec hbytes hml hret hlk hnm hown hh0 W hP
  obtain ⟨rfl, hB, f1, f2, hA, s1, hz, l0, l1, l2, hp⟩ := hP
  have a31 := hA.1.2.2.2
  have c1 : Steps p.tables e below (s₁.setTop (entryFrame m #[.ref a, .ref b, .int (Int32.ofNat o), .int (Int32.ofNat len), .null] 6)) (s₁.setTop (mkF m 0 #[.val (.ref a), .val (.ref b), .val (.int (Int32.ofNat o)), .val (.int (Int32.ofNat len)), .val .null, .unset] [])) := entry rfl
  have c2 : Steps p.tables e below (s₁.setTop (entryFrame m #[.ref a, .ref b, .int (Int32.ofNat o), .int (Int32.ofNat len), .null] 6)) (s₁.setTop (mkF m 1 #[.val (.ref a), .val (.ref b), .val (.int (Int32.ofNat o)), .val (.int (Int32.ofNat len)), .val .null, .unset] [.ref a])) := c1.trans (by
    refine XS.aloadN X0.here hexec rfl (hb hbytes d0) rfl rfl ?_
    exact Steps.refl _)
  obtain ⟨T3, X3, q3, st3⟩ := X0.oinit hexec hown (wks W (objW "java/lang/String" 1)) (g := (mkF m 1 #[.val (.ref a), .val (.ref b), .val (.int (Int32.ofNat o)), .val (.int (Int32.ofNat len)), .val .null, .unset] [.ref a])) rfl (by rw [hml]; rfl) (rest := []) rfl (hb hbytes d1) (W := 0) (by show 2 * 0 + 0 ≤ _; decide) (Nat.le_of_ble_eq_true rfl) (Nat.le_of_ble_eq_true rfl)
  have hh3 := q3.trans hh0
  have c4 : Steps p.tables e below (s₁.setTop (entryFrame m #[.ref a, .ref b, .int (Int32.ofNat o), .int (Int32.ofNat len), .null] 6)) (T3.setTop (mkF m 27 #[.val (.ref a), .val (.ref b), .val (.int (Int32.ofNat o)), .val (.int (Int32.ofNat len)), .val .null, .unset] [])) := (c2.trans (st3 _ (Steps.refl _))).trans (by
    refine XS.iloadN X3.here hexec rfl (hb hbytes d4) rfl ?_
    refine XS.ifYes X3.here hexec rfl (pc0 := 5) rfl (hb hbytes d5) rfl (i0_ne_t (nz32 (by omega) l0)) (by decide) rfl ?_
    exact Steps.refl _)
  obtain ⟨T5, X5, q5, st5⟩ := X3.sget hexec hown (wk W (.fieldLink "java/lang/String" 38 "java/lang/String" "COMPACT_STRINGS" "Z")) s1 (fun _ _ h => by rw [hh3]; exact h) (g := (mkF m 27 #[.val (.ref a), .val (.ref b), .val (.int (Int32.ofNat o)), .val (.int (Int32.ofNat len)), .val .null, .unset] [])) rfl (hb hbytes d27)
  have hh5 := q5.trans hh3
  have c6 : Steps p.tables e below (s₁.setTop (entryFrame m #[.ref a, .ref b, .int (Int32.ofNat o), .int (Int32.ofNat len), .null] 6)) (T5.setTop (mkF m 30 #[.val (.ref a), .val (.ref b), .val (.int (Int32.ofNat o)), .val (.int (Int32.ofNat len)), .val .null, .unset] [.int z])) := c4.trans (st5 _ (Steps.refl _))
  have c7 : Steps p.tables e below (s₁.setTop (entryFrame m #[.ref a, .ref b, .int (Int32.ofNat o), .int (Int32.ofNat len), .null] 6)) (T5.setTop (mkF m 36 #[.val (.ref a), .val (.ref b), .val (.int (Int32.ofNat o)), .val (.int (Int32.ofNat len)), .val .null, .unset] [.int (Int32.ofNat len), .int (Int32.ofNat o), .ref b])) := c6.trans (by
    refine XS.ifNo X5.here hexec rfl (hb hbytes d30) rfl (i0_eq_f hz) ?_
    refine XS.aloadN X5.here hexec rfl (hb hbytes d33) rfl rfl ?_
    refine XS.iloadN X5.here hexec rfl (hb hbytes d34) rfl ?_
    refine XS.iloadN X5.here hexec rfl (hb hbytes d35) rfl ?_
    exact Steps.refl _)
  obtain ⟨v8, T8, X8, E8, g8⟩ := X5.callS hexec (Cmp3.law l b A o len) hown (wks W (staticW "java/lang/String" 177 Cmp3.yN)) (wk W Cmp3.tab) (W := 0) (Nat.le_of_ble_eq_true rfl) (Nat.le_of_ble_eq_true rfl) (Nat.le_refl _) (by show 0 + len ≤ len; omega) (g := (mkF m 36 #[.val (.ref a), .val (.ref b), .val (.int (Int32.ofNat o)), .val (.int (Int32.ofNat len)), .val .null, .unset] [.int (Int32.ofNat len), .int (Int32.ofNat o), .ref b])) rfl (by rw [hml]; rfl) c7 (argsL := [.ref b, .int (Int32.ofNat o), .int (Int32.ofNat len)]) (rest := []) rfl rfl (by show 2 * 0 + 0 ≤ _; decide) (hb hbytes d36) (⟨rfl, hA.mv X5.warmed.alike hh5, l1, l2, hp⟩)
  obtain ⟨e8, z8⟩ := E8
  obtain ⟨rfl, N, n1, n2, n3, n4, n5, n6⟩ := NewArr.mv _ T5 s _ _ hh5.symm (Vm.Alike.refl _) rfl e8
  rw [hh5] at z8
  have hB1 := hB.keep X8.warmed.alike (n6 _ _ hB.1)
  have hne : s.heap.size ≠ a := (Nat.ne_of_lt (Array.getElem?_eq_some_iff.mp hB.1).1).symm
  have c9 : Steps p.tables e below (s₁.setTop (entryFrame m #[.ref a, .ref b, .int (Int32.ofNat o), .int (Int32.ofNat len), .null] 6)) (T8.setTop (mkF m 39 #[.val (.ref a), .val (.ref b), .val (.int (Int32.ofNat o)), .val (.int (Int32.ofNat len)), .val .null, .unset] [.ref s.heap.size])) := g8
  have c10 : Steps p.tables e below (s₁.setTop (entryFrame m #[.ref a, .ref b, .int (Int32.ofNat o), .int (Int32.ofNat len), .null] 6)) (T8.setTop (mkF m 45 #[.val (.ref a), .val (.ref b), .val (.int (Int32.ofNat o)), .val (.int (Int32.ofNat len)), .val .null, .val (.ref s.heap.size)] [.int (Int32.ofNat N.slots.size), .ref s.heap.size, .ref a])) := by
    have hc : Steps p.tables e below (s₁.setTop (entryFrame m #[.ref a, .ref b, .int (Int32.ofNat o), .int (Int32.ofNat len), .null] 6)) (T8.setTop (mkF m 45 #[.val (.ref a), .val (.ref b), .val (.int (Int32.ofNat o)), .val (.int (Int32.ofNat len)), .val .null, .val (.ref s.heap.size)] [.int (Int32.ofNat len), .ref s.heap.size, .ref a])) := c9.trans (by
      refine XS.astore X8.here hexec rfl (hb hbytes d39) rfl rfl rfl ?_
      refine XS.aloadN X8.here hexec rfl (hb hbytes d41) rfl rfl ?_
      refine XS.aload X8.here hexec rfl (hb hbytes d42) rfl rfl ?_
      refine XS.iloadN X8.here hexec rfl (hb hbytes d44) rfl ?_
      exact Steps.refl _)
    rw [n4]; exact hc
  obtain ⟨v11, T11, X11, E11, g11⟩ := X8.callS hexec (CodL.law l s.heap.size N) hown (wks W (staticW "java/lang/String" 47 CodL.yN)) (wk W CodL.tab) (W := 1) (Nat.le_of_ble_eq_true rfl) (Nat.le_of_ble_eq_true rfl) (Nat.le_refl _) (by show 0 + len + 0 ≤ len; omega) (g := (mkF m 45 #[.val (.ref a), .val (.ref b), .val (.int (Int32.ofNat o)), .val (.int (Int32.ofNat len)), .val .null, .val (.ref s.heap.size)] [.int (Int32.ofNat N.slots.size), .ref s.heap.size, .ref a])) rfl (by rw [hml]; rfl) c10 (argsL := [.ref s.heap.size, .int (Int32.ofNat N.slots.size)]) (rest := [.ref a]) rfl rfl (by show 2 * 0 + (1 + 0) ≤ _; decide) (hb hbytes d45) (⟨rfl, n1⟩)
  obtain ⟨rfl, q11⟩ := E11
  have hB11 := hB1.mv (X8.warmed.alike.symm.trans X11.warmed.alike) q11
  have c12 : Steps p.tables e below (s₁.setTop (entryFrame m #[.ref a, .ref b, .int (Int32.ofNat o), .int (Int32.ofNat len), .null] 6)) (T11.setTop (mkF m 48 #[.val (.ref a), .val (.ref b), .val (.int (Int32.ofNat o)), .val (.int (Int32.ofNat len)), .val .null, .val (.ref s.heap.size)] [.int 0, .ref a])) := g11
  obtain ⟨T13, X13, p13, bl13, sl13, st13⟩ := X11.finit hexec hown (wk W (.fieldLink "java/lang/String" 15 "java/lang/String" "coder" "B")) (Or.inr ⟨_, (wk W (.laysFinal "java/lang/String" "java/lang/String" "coder" "B"))⟩) (Or.inl ⟨rfl, hnm⟩) f2 (Or.inl rfl) hB11 (t := .byte) (by decide +kernel) rfl (g := (mkF m 48 #[.val (.ref a), .val (.ref b), .val (.int (Int32.ofNat o)), .val (.int (Int32.ofNat len)), .val .null, .val (.ref s.heap.size)] [.int 0, .ref a])) rfl (rest := []) rfl (hb hbytes d48)
  have c14 : Steps p.tables e below (s₁.setTop (entryFrame m #[.ref a, .ref b, .int (Int32.ofNat o), .int (Int32.ofNat len), .null] 6)) (T13.setTop (mkF m 54 #[.val (.ref a), .val (.ref b), .val (.int (Int32.ofNat o)), .val (.int (Int32.ofNat len)), .val .null, .val (.ref s.heap.size)] [.ref s.heap.size, .ref a])) := (c12.trans (st13 _ (Steps.refl _))).trans (by
    refine XS.aloadN X13.here hexec rfl (hb hbytes d51) rfl rfl ?_
    refine XS.aload X13.here hexec rfl (hb hbytes d52) rfl rfl ?_
    exact Steps.refl _)
  obtain ⟨T15, X15, p15, bl15, sl15, st15⟩ := X13.finit hexec hown (wk W (.fieldLink "java/lang/String" 9 "java/lang/String" "value" "[B")) (Or.inr ⟨_, (wk W (.laysFinal "java/lang/String" "java/lang/String" "value" "[B"))⟩) (Or.inl ⟨rfl, hnm⟩) f1 (Or.inl rfl) bl13 (t := (.array .byte)) (by decide +kernel) rfl (g := (mkF m 54 #[.val (.ref a), .val (.ref b), .val (.int (Int32.ofNat o)), .val (.int (Int32.ofNat len)), .val .null, .val (.ref s.heap.size)] [.ref s.heap.size, .ref a])) rfl (rest := []) rfl (hb hbytes d54)
  have c16 : Steps p.tables e below (s₁.setTop (entryFrame m #[.ref a, .ref b, .int (Int32.ofNat o), .int (Int32.ofNat len), .null] 6)) (T15.setTop (mkF m 57 #[.val (.ref a), .val (.ref b), .val (.int (Int32.ofNat o)), .val (.int (Int32.ofNat len)), .val .null, .val (.ref s.heap.size)] [])) := c14.trans (st15 _ (Steps.refl _))
  have ap := apart (Or.inr ⟨_, (wk W (.laysFinal "java/lang/String" "java/lang/String" "value" "[B"))⟩) (Or.inr ⟨_, (wk W (.laysFinal "java/lang/String" "java/lang/String" "coder" "B"))⟩) f1 f2 (t₁ := .array .byte) (t₂ := .byte) (by decide +kernel) (by decide +kernel) (by decide)
  have al := X8.warmed.alike.symm.trans X15.warmed.alike
  have n7 : T11.heap[s.heap.size]? = some N := by rw [q11]; exact n1.1
  exact ⟨T15, none, _, _, _, X15, by simp, rfl, by omega, (fun _ => rfl), ⟨rfl, _, N, bl15, ((Same.refl D _).set _ (by simp)).set _ (by simp), sl15, (Cell.slots_setSlot_ne _ ap).trans sl13, n1.keep al (p15.other hne (p13.other hne n7)), n2, by rw [al.findClass]; exact n3, n4, n5, fun y c h1 h2 => p15.other h1 (p13.other h1 (by rw [q11]; exact n6 y c h2)), by rw [p15.2.2, p13.2.2, q11]; exact z8⟩, fun fs hl => c16.trans (X15.returnOut hexec hret (hb hbytes d57) hl)⟩
end New4
namespace New1
def yN : MethodName := ⟨"java/lang/String", "<init>", "([C)V"⟩
abbrev yB : ByteArray := jdk_42_method_3_code
theorem d0 : decode yB 0 = .ok (.aload_n 0, 1) := by decide +kernel
theorem d1 : decode yB 1 = .ok (.aload_n 1, 1) := by decide +kernel
theorem d2 : decode yB 2 = .ok (.iconst 0, 1) := by decide +kernel
theorem d3 : decode yB 3 = .ok (.aload_n 1, 1) := by decide +kernel
theorem d4 : decode yB 4 = .ok (.arraylength, 1) := by decide +kernel
theorem d5 : decode yB 5 = .ok (.aconst_null, 1) := by decide +kernel
theorem d6 : decode yB 6 = .ok (.invokespecial 27, 3) := by decide +kernel
theorem d9 : decode yB 9 = .ok (.return_, 1) := by decide +kernel
def site : List Cond := [New4.tab] ++ initW "java/lang/String" 27 New4.yN
def tab : Cond := tabOf yN yB 2 none site
def P (a : Addr) (D : Cell) (fV fC : Field) (b : Addr) (A : Cell) (z : Int32) (args : Array Value) (s : State) : Prop := args = #[.ref a, .ref b] ∧ Blank "java/lang/String" a D s ∧ Found "java/lang/String" "value" "[B" fV s ∧ Found "java/lang/String" "coder" "B" fC s ∧ Ch b A s ∧ StaticIs s "java/lang/String" "COMPACT_STRINGS" "Z" (.int z) ∧ ¬ z = 0 ∧ 0 < A.slots.size ∧ A.slots.size ≤ 536870912 ∧ ∀ i, i < A.slots.size → ¬ 255 < cv A i
def E (a : Addr) (D : Cell) (fV fC : Field) (A : Cell) (r : Option Value) (s u : State) : Prop := Got a D fV fC A 0 A.slots.size r s u
/-- new String(chars), not empty, no char above 255: a Latin-1 String of their low bytes -/
theorem law (l : Launch) (a : Addr) (D : Cell) (fV fC : Field) (b : Addr) (A : Cell) (z : Int32) : Law l yN 2 1 3 52 yB 2 none site (P a D fV fC b A z) (E a D fV fC A) [⟨a, fC.slot⟩, ⟨a, fV.slot⟩] 1 A.slots.size := by
  refine Law.of_walk (plainFor_of_name (by decide +kernel)) (by decide +kernel) (by decide +kernel) (by decide) (fun _ _ h => by rw [h.1]; rfl) (fun _ U U' hal hh h => ⟨h.1, h.2.1.mv hal hh, h.2.2.1.al hal, h.2.2.2.1.al hal, h.2.2.2.2.1.mv hal hh, h.2.2.2.2.2.1.there hal hh, h.2.2.2.2.2.2⟩) (fun r U U' V V' h1 hal h2 h => Got.mv r U U' V V' h1 hal h2 h) ?_
  intro p e s m args below meth c s₁ X0 hexec hbytes hml hret hlk hnm hown hh0 W hP
  obtain ⟨rfl, hB, f1, f2, hA, s1, hz, l0, l2, hp⟩ := hP
  have c1 : Steps p.tables e below (s₁.setTop (entryFrame m #[.ref a, .ref b] 2)) (s₁.setTop (mkF m 0 #[.val (.ref a), .val (.ref b)] [])) := entry rfl
  have c2 : Steps p.tables e below (s₁.setTop (entryFrame m #[.ref a, .ref b] 2)) (s₁.setTop (mkF m 6 #[.val (.ref a), .val (.ref b)] [.null, .int (Int32.ofNat A.slots.size), .int 0, .ref b, .ref a])) := c1.trans (by
    refine XS.aloadN X0.here hexec rfl (hb hbytes d0) rfl rfl ?_
    refine XS.aloadN X0.here hexec rfl (hb hbytes d1) rfl rfl ?_
    refine iconstV X0.here hexec rfl 0 (hb hbytes d2) (by decide) ?_
    refine XS.aloadN X0.here hexec rfl (hb hbytes d3) rfl rfl ?_
    refine X0.alen hexec (hA.1.mv X0.warmed.alike hh0) rfl rfl (hb hbytes d4) ?_
    refine XS.aconstNull X0.here hexec rfl (hb hbytes d5) ?_
    exact Steps.refl _)
  obtain ⟨v3, T3, X3, E3, g3⟩ := X0.callN hexec (New4.law l a D fV fC b A z 0 A.slots.size) rfl hown (wks W (initW "java/lang/String" 27 New4.yN)) (W New4.tab (by simp only [site, List.mem_cons, List.mem_append, true_or, or_true])) (W := 0) (Nat.le_of_ble_eq_true rfl) (Nat.le_of_ble_eq_true rfl) (Nat.le_refl _) (by show 0 + A.slots.size ≤ A.slots.size; omega) (g := (mkF m 6 #[.val (.ref a), .val (.ref b)] [.null, .int (Int32.ofNat A.slots.size), .int (Int32.ofNat 0), .ref b, .ref a])) rfl (by rw [hml]; rfl) c2 (argsL := [.ref b, .int (Int32.ofNat 0), .int (Int32.ofNat A.slots.size), .null]) (rest := []) rfl rfl (by show 2 * 0 + 0 ≤ _; decide) (hb hbytes d6) (⟨rfl, hB.mv X0.warmed.alike hh0, f1.al X0.warmed.alike, f2.al X0.warmed.alike, hA.mv X0.warmed.alike hh0, s1.there X0.warmed.alike hh0, hz, l0, by omega, l2, fun i hi => by rw [Nat.zero_add]; exact hp i hi⟩)
  have e0 := Got.mv _ s₁ s _ _ hh0.symm (Vm.Alike.refl _) rfl E3
  obtain rfl := e0.1
  have c4 : Steps p.tables e below (s₁.setTop (entryFrame m #[.ref a, .ref b] 2)) (T3.setTop (mkF m 9 #[.val (.ref a), .val (.ref b)] [])) := g3
  exact ⟨T3, none, _, _, _, X3, by simp, rfl, by omega, (fun _ => rfl), e0, fun fs hl => c4.trans (X3.returnOut hexec hret (hb hbytes d9) hl)⟩
theorem pays {l : Launch} {R : Room} {p : Program} {e : Env} {below : List Frame} {s : State} {sargs : Array Value} {len W : Nat} (a : Addr) (D : Cell) (fV fC : Field) (b : Addr) (A : Cell) (z : Int32) (htab : tab.before sargs s = true) (hfr : 4 ≤ R.frames) (hlo : W + 65 ≤ R.locals) :
    Back l R p e below s sargs yN len W (fun A₁ a₁ => A₁.cells + 1 ≤ R.cells ∧ A₁.slots + A.slots.size ≤ R.slots ∧ P a D fV fC b A z a₁ A₁.U) (fun A₁ _ v₁ B₁ => E a D fV fC A v₁ A₁.U B₁.U ∧ B₁.locs = A₁.locs ++ [⟨a, fC.slot⟩, ⟨a, fV.slot⟩] ∧ B₁.cells = A₁.cells + 1 ∧ B₁.slots = A₁.slots + A.slots.size) :=
  (law l a D fV fC b A z).pays htab hfr (by omega)
end New1
end StrChars
namespace StrChars.Road
open Jvm Sem ClassFile Op Lib Jvm.Stand Jvm.Free Jvm.Free.XT
open Jvm.Lib.Cold (StaticIs)
abbrev ST : String := "java/lang/String"
/-- every table word that New1's law asks, flat -/
abbrev words : List Jvm.Cond := [.code New1.yN New1.yB 2 none, .initialized ST, .methodLink ST 27 New4.yN, .instanceMethod New4.yN,
  .code New4.yN New4.yB 6 none, .fieldLink ST 38 ST "COMPACT_STRINGS" "Z", .laysFinal ST ST "value" "[B", .fieldLink ST 9 ST "value" "[B", .laysFinal ST ST "coder" "B", .fieldLink ST 15 ST "coder" "B",
  .methodLink ST 1 Lib.objectInit, .instanceMethod Lib.objectInit, .code Lib.objectInit ⟨#[0xb1]⟩ 1 none, .methodLink ST 177 Cmp3.yN, .static Cmp3.yN, .methodLink ST 47 CodL.yN, .static CodL.yN,
  .code Cmp3.yN Cmp3.yB 6 (some (.array .byte)), .initialized U16, .arrayClass .byte, .methodLink U16 115 Cmp5.yN, .static Cmp5.yN, .code Cmp5.yN Cmp5.yB 7 (some .int), .code CodL.yN CodL.yB 2 (some .byte)]
theorem tab_of {a : Array Value} {s : State} (h : ∀ w ∈ words, w.before a s = true) : New1.tab.before a s = true := by
  have h5 : Cmp5.tab.before a s = true := unparts (wk h (.code Cmp5.yN Cmp5.yB 7 (some .int))) (wks h (.initialized Cmp5.yN.cls :: Cmp5.site))
  have hc : CodL.tab.before a s = true := unparts (wk h (.code CodL.yN CodL.yB 2 (some .byte))) (wks h (.initialized CodL.yN.cls :: CodL.site))
  have q5 : ∀ w ∈ Cmp5.tab :: words, w.before a s = true := fun w hw => (List.mem_cons.mp hw).elim (fun e => e ▸ h5) (h w)
  have h3 : Cmp3.tab.before a s = true := unparts (wk q5 (.code Cmp3.yN Cmp3.yB 6 (some (.array .byte)))) (wks q5 (.initialized Cmp3.yN.cls :: Cmp3.site))
  have q3 : ∀ w ∈ Cmp3.tab :: CodL.tab :: words, w.before a s = true := fun w hw => (List.mem_cons.mp hw).elim (fun e => e ▸ h3) fun hw => (List.mem_cons.mp hw).elim (fun e => e ▸ hc) (h w)
  have h4 : New4.tab.before a s = true := unparts (wk q3 (.code New4.yN New4.yB 6 none)) (wks q3 (.initialized New4.yN.cls :: New4.site))
  have q4 : ∀ w ∈ New4.tab :: words, w.before a s = true := fun w hw => (List.mem_cons.mp hw).elim (fun e => e ▸ h4) (h w)
  exact unparts (wk q4 (.code New1.yN New1.yB 2 none)) (wks q4 (.initialized New1.yN.cls :: New1.site))
/-- the words ride from the start Z to the walk's own state -/
theorem moved {Z s : State} {a0 args : Array Value} (hZ : Z.Warmed39 s.vm) (hw : ∀ d ∈ words, d.before a0 Z = true) : ∀ d ∈ words, d.before args s = true := fun d hd => by
  have q := hw d hd
  have t : ∀ d ∈ words, d = .arrayClass .byte ∨ (d.onTables && d.keepsFace) = true := by decide +kernel
  rcases t d hd with rfl | t
  · exact RoadKit.mvA hZ q
  · exact RoadKit.mv hZ q t
/-- WHAT COMES BACK, over the tables of the start Z: h the heap at the call, h' behind it -/
def Q (Z : State) (x : Addr) (A : Cell) (h : Heap) (v : Option Value) (h' : Heap) (L : List Loc) : Prop := v = none ∧ (∀ y ∈ L, y.base = x) ∧ RoadKit.Keep h h' [x] ∧ h'.size = h.size + 1 ∧ RoadKit.Exa Z h' x ST ∧ RoadKit.Fld Z h' x ST "value" "[B" (.ref h.size) ∧ RoadKit.Fld Z h' x ST "coder" "B" (.int 0) ∧
  (∃ V : Cell, RoadKit.Arr Z h' h.size V .byte ∧ V.vm = .none ∧ Z.vm.findClass "[B" = some V.cls ∧ V.slots.size = A.slots.size ∧ ∀ j, j < A.slots.size → V.slots[j]? = some (.int (lo8 (cv A j)))) ∧
  ∀ (O n d : String) (w : Value), RoadKit.Fld Z h x O n d w → RoadKit.slotOf Z O n d ≠ RoadKit.slotOf Z ST "value" "[B" → RoadKit.slotOf Z O n d ≠ RoadKit.slotOf Z ST "coder" "B" → RoadKit.Fld Z h' x O n d w
/-- **new String(chars) AT A CALL, IN THE ROAD'S FORM**: for specialBack behind newO: x the fresh String, b the char[] with the cell A -/
theorem back {p : Program} {l : Launch} {e : Env} {R : Room} {s : State} {args : Array Value} {below : List Frame} {len W : Nat} {Z : State} {a0 : Array Value} {h : Heap} (hZ : Z.Warmed39 s.vm) (hw : ∀ d ∈ words, d.before a0 Z = true) {kI : Nat} (wi : (Jvm.Cond.instantiable ST kI).before a0 Z = true)
    {x b : Addr} {A : Cell} {z : Int32} {v0 c0 : Value} (E : RoadKit.Exa Z h x ST) (V : RoadKit.Fld Z h x ST "value" "[B" v0) (C : RoadKit.Fld Z h x ST "coder" "B" c0) (K : RoadKit.Arr Z h b A .char) (hty : Typed .char A) (S : RoadKit.Sta Z h ST "COMPACT_STRINGS" "Z" (.int z)) (hz : ¬ z = 0)
    (l0 : 0 < A.slots.size) (l2 : A.slots.size ≤ 536870912) (hp : ∀ i, i < A.slots.size → ¬ 255 < cv A i) (hfr : 4 ≤ R.frames) (hlo : W + 65 ≤ R.locals) :
    Back l R p e below s args New1.yN len W (fun P a => a = #[.ref x, .ref b] ∧ P.U.heap = h ∧ P.cells + 1 ≤ R.cells ∧ P.slots + A.slots.size ≤ R.slots)
      (fun P _ v B => ∃ L, Q Z x A h v B.U.heap L ∧ B.locs = P.locs ++ L ∧ B.cells = P.cells + 1 ∧ B.slots = P.slots + A.slots.size) := by
  intro m meth c P g ig mk a X hg hsize hdg hW hn hp'
  obtain ⟨rfl, rfl, r1, r2⟩ := hp'
  have al : Z.vm.Alike P.U.vm := hZ.alike.trans X.warmed.alike
  obtain ⟨D, cfV, kV, iV, fV, hD, gV, stV, knV, obV, asV, slV⟩ := id V
  obtain ⟨D', cfC, kC, iC, fC, hD', gC, stC, -, -, asC, slC⟩ := id C
  cases hD.symm.trans hD'
  obtain ⟨D2, kD, e1, e2, e3, e4, e5⟩ := id E
  cases hD.symm.trans e1
  obtain ⟨c2, k2, i1, i2, i3, -⟩ := Cond.instantiable_spec wi
  cases e2.symm.trans i1
  cases e3.symm.trans i2
  obtain ⟨kU, u1, u2⟩ := al.2.2 _ _ e3
  have hB : Blank ST x D P.U := ⟨hD, ⟨knV, fun q hq => by rw [hq] at obV; cases obV⟩, by rw [al.findClass]; exact e2, kU, u1, by rw [u2]; exact i3, by rw [u2]; exact e5 i3⟩
  have F1 : Found ST "value" "[B" fV P.U := ⟨SBG.found_only al ⟨cfV, kV, iV, gV⟩, stV⟩
  have F2 : Found ST "coder" "B" fC P.U := ⟨SBG.found_only al ⟨cfC, kC, iC, gC⟩, stC⟩
  have hA : Ch b A P.U := ⟨⟨K.1, State.isArrayOf_alike al K.2.1, K.2.2, by omega⟩, hty⟩
  have hS : StaticIs P.U ST "COMPACT_STRINGS" "Z" (.int z) := by
    obtain ⟨cfS, iS, kS, fS, st, cS, t1, t2, t3, t4, t5, t6, t7⟩ := S
    exact StaticIs.there (s := { Z with heap := P.U.heap }) ⟨cfS, iS, kS, fS, st, cS, t1, t2, t3, t4, t5, (fun q => by rw [q] at t6; cases t6), t7⟩ al rfl
  obtain ⟨v, B, X', ⟨⟨hv, E', V', q1, q2, q3, q4, q5, q6, q7, q8, q9, q10, q11⟩, hl, hc, hs⟩, st⟩ := New1.pays x D fV fC b A z (tab_of (moved hZ hw)) hfr hlo m meth c P g ig mk _ X hg hsize hdg hW hn ⟨r1, r2, rfl, hB, F1, F2, hA, hS, hz, l0, l2, hp⟩
  have al' : Z.vm.Alike B.U.vm := hZ.alike.trans X'.warmed.alike
  have hsz : E'.slots.size = D.slots.size := by
    obtain ⟨-, -, -, kB, w1, w2, w3⟩ := q1
    obtain ⟨kB', y1, y2⟩ := al'.2.2 _ _ e3
    rw [q2.2.1] at w1
    cases w1.symm.trans y1
    rw [w3, e5 i3, y2]
  refine ⟨v, B, X', ⟨_, ⟨hv, ?_, ⟨by omega, fun y cy hy hn' => q10 y cy (by simpa using hn') hy, fun y cy hy => ?_⟩, q11, ⟨E', _, q1.1, by rw [q2.2.1]; exact e2, by rw [q2.2.1]; exact e3, by rw [q2.1]; exact obV, fun _ => by rw [hsz]; exact e5 i3⟩,
    ⟨E', cfV, kV, iV, fV, q1.1, gV, stV, by rw [q2.1]; exact knV, by rw [q2.1]; exact obV, by rw [q2.2.1]; exact asV, q3⟩, ⟨E', cfC, kC, iC, fC, q1.1, gC, stC, by rw [q2.1]; exact knV, by rw [q2.1]; exact obV, by rw [q2.2.1]; exact asC, q4⟩,
    ⟨V', ⟨q5.1, State.isArrayOf_alike al'.symm q5.2.1, q5.2.2.1⟩, q6, by rw [← al'.findClass]; exact q7, q8, fun j hj => by have := q9 j hj; rwa [Nat.zero_add] at this⟩, fun O n d w F n1 n2 => ?_⟩, hl, hc, hs⟩, st⟩
  · intro y hy
    simp only [List.mem_cons, List.not_mem_nil, or_false] at hy
    rcases hy with rfl | rfl <;> rfl
  · by_cases q : y = x
    · subst q
      cases hD.symm.trans hy
      exact ⟨E', q1.1, q2.2.1, q2.1, hsz⟩
    · exact ⟨cy, q10 y cy q hy, rfl, rfl, rfl⟩
  · obtain ⟨D3, cf, k, i, f, g1, g2, g3, g4, g5, g6, g7⟩ := F
    cases hD.symm.trans g1
    simp only [RoadKit.slotOf, g2, gV, gC, Option.map_some, Option.getD_some] at n1 n2
    exact ⟨E', cf, k, i, f, q1.1, g2, g3, by rw [q2.1]; exact g4, by rw [q2.1]; exact g5, by rw [q2.2.1]; exact g6, by rw [q2.2.2 f.slot (by simp [n1, n2])]; exact g7⟩
end StrChars.Road
namespace StrChars.Road
open Jvm Sem ClassFile Op Lib Jvm.Stand Jvm.Free Jvm.Free.XT
/-- WHAT COMES BACK, the byte[] as a list of values -/
def QA (Z : State) (x : Addr) (zn : Int32) (cs : List Int32) (h : Heap) (v : Option Value) (h' : Heap) (L : List Loc) : Prop := v = none ∧ (∀ y ∈ L, y.base = x) ∧ RoadKit.Keep h h' [x] ∧ h'.size = h.size + 1 ∧ RoadKit.Exa Z h' x ST ∧ RoadKit.Fld Z h' x ST "value" "[B" (.ref h.size) ∧ RoadKit.Fld Z h' x ST "coder" "B" (.int 0) ∧
  (∃ kb, Z.vm.findClass "[B" = some kb ∧ RoadKit.Arv Z h' h.size kb .byte zn (cs.map fun c => .int (lo8 c)) (.int 0)) ∧
  ∀ (O n d : String) (w : Value), RoadKit.Fld Z h x O n d w → RoadKit.slotOf Z O n d ≠ RoadKit.slotOf Z ST "value" "[B" → RoadKit.slotOf Z O n d ≠ RoadKit.slotOf Z ST "coder" "B" → RoadKit.Fld Z h' x O n d w
/-- **new String(chars) AT A CALL, THE ARRAYS AS LISTS**: the char[] at b holds cs, not empty, no char above 255 -/
theorem backArv {p : Program} {l : Launch} {e : Env} {R : Room} {s : State} {args : Array Value} {below : List Frame} {len W : Nat} {Z : State} {a0 : Array Value} {h : Heap} (hZ : Z.Warmed39 s.vm) (hw : ∀ d ∈ words, d.before a0 Z = true) {kI : Nat} (wi : (Jvm.Cond.instantiable ST kI).before a0 Z = true)
    {x b : Addr} {k : ClassId} {zn z : Int32} {cs : List Int32} {dv v0 c0 : Value} (E : RoadKit.Exa Z h x ST) (V : RoadKit.Fld Z h x ST "value" "[B" v0) (C : RoadKit.Fld Z h x ST "coder" "B" c0) (K : RoadKit.Arv Z h b k .char zn (cs.map Value.int) dv) (S : RoadKit.Sta Z h ST "COMPACT_STRINGS" "Z" (.int z)) (hz : ¬ z = 0)
    (hlen : zn.toNatClampNeg = cs.length) (h0 : 0 < cs.length) (hbig : cs.length ≤ 536870912) (hall : ∀ c ∈ cs, ¬ 255 < c) (hfr : 4 ≤ R.frames) (hlo : W + 65 ≤ R.locals) :
    Back l R p e below s args New1.yN len W (fun P a => a = #[.ref x, .ref b] ∧ P.U.heap = h ∧ P.cells + 1 ≤ R.cells ∧ P.slots + cs.length ≤ R.slots)
      (fun P _ v B => ∃ L, QA Z x zn cs h v B.U.heap L ∧ B.locs = P.locs ++ L ∧ B.cells = P.cells + 1 ∧ B.slots = P.slots + cs.length) := by
  obtain ⟨A, K1, K2, K3, K4, K5, K6⟩ := K
  have e : A.slots.size = cs.length := K3.trans hlen
  have hat : ∀ (i : Nat) (hi : i < cs.length), A.slots[i]? = some (.int cs[i]) := fun i hi => by rw [K5 i (by omega)]; simp [List.getD_eq_getElem?_getD, hi]
  have hcv : ∀ (i : Nat) (hi : i < cs.length), cv A i = cs[i] := fun i hi => by unfold cv; rw [hat i hi]
  have hty : Typed .char A := fun i v hv => by
    have hi : i < A.slots.size := (Array.getElem?_eq_some_iff.mp hv).1
    have q := K5 i hi
    rw [hv] at q
    rw [Option.some.inj q]
    exact K6 i hi
  refine Back.mono (back hZ hw wi E V C K1 hty S hz (by omega) (by omega) (fun i hi => by rw [hcv i (by omega)]; exact hall _ (List.getElem_mem _)) hfr hlo) (fun P a hp => ⟨hp.1, hp.2.1, hp.2.2.1, by rw [e]; exact hp.2.2.2⟩) (fun P a v B hp hq => ?_)
  obtain ⟨L, ⟨q1, q2, q3, q4, q5, q6, q7, ⟨V', v1, v2, v3, v4, v5⟩, q9⟩, hl, hc, hs⟩ := hq
  refine ⟨L, ⟨q1, q2, q3, q4, q5, q6, q7, ⟨V'.cls, v3, V', v1, rfl, by rw [v4, e, hlen], K4, fun i hi => ?_, fun i hi => ?_⟩, q9⟩, hl, hc, by rw [hs, e]⟩
  · have hi' : i < cs.length := by omega
    rw [v5 i (by omega), hcv i hi']; simp [List.getD_eq_getElem?_getD, hi']
  · have hi' : i < cs.length := by omega
    simp only [List.getD_eq_getElem?_getD, List.getElem?_map, List.getElem?_eq_getElem hi', Option.map_some, Option.getD_some]
    exact fits_lo8 _
end StrChars.Road
namespace StrChars.Road
open Jvm Sem ClassFile Op Lib Jvm.Stand Jvm.Free Jvm.Free.XT
/-- WHAT COMES BACK, in the writer's own shape -/
def QV (Z : State) (x : Addr) (N : Int32) (bs : List Int32) (h : Heap) (n0 : Nat) (v : Option Value) (h' : Heap) (L : List Loc) : Prop := v = none ∧ RoadKit.Fr n0 L ∧ RoadKit.Keep h h' [x] ∧ RoadKit.Exa Z h' x ST ∧ RoadKit.Fld Z h' x ST "coder" "B" (.int 0) ∧
  ∃ (t : Addr) (kb : ClassId), n0 ≤ t ∧ h.size ≤ t ∧ ¬ t = x ∧ RoadKit.Fld Z h' x ST "value" "[B" (.ref t) ∧ RoadKit.Arv Z h' t kb .byte N (bs.map Value.int) (.int 0)
/-- **new String(chars) AT A CALL, FOR THE WRITER**: a char[] of n known ints, each 0 to 255 -/
theorem backV {p : Program} {l : Launch} {e : Env} {R : Room} {s : State} {args : Array Value} {below : List Frame} {len W : Nat} {Z : State} {a0 : Array Value} {h : Heap} (hZ : Z.Warmed39 s.vm) (hw : ∀ d ∈ words, d.before a0 Z = true) {kI : Nat} (wi : (Jvm.Cond.instantiable ST kI).before a0 Z = true)
    {x b : Addr} {kC : ClassId} {cs bs : List Int32} {d v0 c0 : Value} {z N : Int32} {n n0 : Nat} (hx0 : n0 ≤ x) (hh0 : n0 ≤ h.size) (E : RoadKit.Exa Z h x ST) (V : RoadKit.Fld Z h x ST "value" "[B" v0) (C : RoadKit.Fld Z h x ST "coder" "B" c0) (K : RoadKit.Arv Z h b kC .char N (cs.map Value.int) d) (S : RoadKit.Sta Z h ST "COMPACT_STRINGS" "Z" (.int z)) (hz : ¬ z = 0)
    (hn : cs.length = n) (hN : N = Int32.ofNat n) (l0 : 0 < n) (l2 : n ≤ 4000) (hp : ∀ c ∈ cs, ¬ c < 0 ∧ ¬ (255 : Int32) < c) (hb : bs = cs.map (fun c => c.toInt8.toInt32)) (hfr : 4 ≤ R.frames) (hlo : W + 65 ≤ R.locals) :
    Back l R p e below s args (⟨"java/lang/String", "<init>", "([C)V"⟩ : MethodName) len W (fun P a => a = #[.ref x, .ref b] ∧ P.U.heap = h ∧ P.cells + 1 ≤ R.cells ∧ P.slots + n ≤ R.slots)
      (fun P _ v B => ∃ L, QV Z x N bs h n0 v B.U.heap L ∧ B.locs = P.locs ++ L ∧ B.cells = P.cells + 1 ∧ B.slots = P.slots + n) := by
  subst hn hN hb
  refine Back.mono (backArv hZ hw wi E V C K S hz (n32 (by omega)) l0 (by omega) (fun c hc => (hp c hc).2) hfr hlo) (fun P a hp => hp) (fun P a v B hp hq => ?_)
  obtain ⟨L, ⟨q1, q2, q3, q4, q5, q6, q7, ⟨kb, v1, v2⟩, q9⟩, hl, hc, hs⟩ := hq
  exact ⟨L, ⟨q1, fun y hy => by rw [q2 y hy]; exact hx0, q3, q5, q7, h.size, kb, hh0, Nat.le_refl _, Nat.ne_of_gt E.lt, q6, by rw [List.map_map]; exact v2⟩, hl, hc, hs⟩
end StrChars.Road
end Jvm.Pilot.@@N@@
namespace Jvm.Pilot.@@N@@
open Jvm Jvm.ClassFile Sem Op Lib Jvm.Free Jvm.Stand Jvm.LawKit Jvm.RoadKit Bundle Jvm.Own Jvm.Pilot.@@N@@.Jvm.D
abbrev own_EL : List (String × Nat) := []
theorem w0 : (Jvm.Cond.arrayClass Jvm.ClassFile.FieldType.char) ∈ tables_1 := List.mem_of_getElem? (i := 0) rfl
theorem w1 : (Jvm.Cond.classLink "com/example/tranche/tranche/DeliveryNextPinLaw" (7 : Nat) "java/lang/String") ∈ tables_1 := List.mem_of_getElem? (i := 1) rfl
theorem w2 : (Jvm.Cond.instantiable "java/lang/String" (4 : Nat)) ∈ tables_1 := List.mem_of_getElem? (i := 2) rfl
theorem w3 : (Jvm.Cond.initialized "java/lang/String") ∈ tables_1 := List.mem_of_getElem? (i := 3) rfl
theorem w4 : (Jvm.Cond.methodLink "com/example/tranche/tranche/DeliveryNextPinLaw" (9 : Nat) ({ cls := "java/lang/String", name := "<init>", desc := "([C)V" } : Jvm.MethodName)) ∈ tables_1 := List.mem_of_getElem? (i := 4) rfl
theorem w5 : (Jvm.Cond.instanceMethod ({ cls := "java/lang/String", name := "<init>", desc := "([C)V" } : Jvm.MethodName)) ∈ tables_1 := List.mem_of_getElem? (i := 5) rfl
theorem w6 : (Jvm.Cond.code ({ cls := "java/lang/String", name := "<init>", desc := "([C)V" } : Jvm.MethodName) jdk_42_method_3_code (2 : Nat) (Option.none : Option Jvm.ClassFile.FieldType)) ∈ tables_1 := List.mem_of_getElem? (i := 6) rfl
theorem w12 : (Jvm.Cond.instanceMethod ({ cls := "java/lang/Object", name := "<init>", desc := "()V" } : Jvm.MethodName)) ∈ tables_1 := List.mem_of_getElem? (i := 12) rfl
theorem w13 : (Jvm.Cond.code ({ cls := "java/lang/Object", name := "<init>", desc := "()V" } : Jvm.MethodName) object_method_1_code (1 : Nat) (Option.none : Option Jvm.ClassFile.FieldType)) ∈ tables_1 := List.mem_of_getElem? (i := 13) rfl
theorem w27 : (Jvm.Cond.laysFinal "java/lang/String" "java/lang/String" "coder" "B") ∈ tables_1 := List.mem_of_getElem? (i := 27) rfl
theorem w29 : (Jvm.Cond.laysFinal "java/lang/String" "java/lang/String" "value" "[B") ∈ tables_1 := List.mem_of_getElem? (i := 29) rfl
theorem w30 : (Jvm.Cond.fieldLink "com/example/tranche/tranche/DeliveryNextPinLaw" (18 : Nat) "com/example/tranche/tranche/Payout$Kind" "REFUND" "Lcom/example/tranche/tranche/Payout$Kind;") ∈ tables_1 := List.mem_of_getElem? (i := 30) rfl
theorem w31 : (Jvm.Cond.initialized "com/example/tranche/tranche/Payout$Kind") ∈ tables_1 := List.mem_of_getElem? (i := 31) rfl
theorem w32 : (Jvm.Cond.laysStatic "com/example/tranche/tranche/Payout$Kind" "REFUND" "Lcom/example/tranche/tranche/Payout$Kind;") ∈ tables_1 := List.mem_of_getElem? (i := 32) rfl
theorem w33 : (Jvm.Cond.classLink "com/example/tranche/tranche/DeliveryNextPinLaw" (21 : Nat) "com/example/tranche/tranche/Payout") ∈ tables_1 := List.mem_of_getElem? (i := 33) rfl
theorem w34 : (Jvm.Cond.instantiable "com/example/tranche/tranche/Payout" (4 : Nat)) ∈ tables_1 := List.mem_of_getElem? (i := 34) rfl
theorem w35 : (Jvm.Cond.initialized "com/example/tranche/tranche/Payout") ∈ tables_1 := List.mem_of_getElem? (i := 35) rfl
theorem w36 : (Jvm.Cond.methodLink "com/example/tranche/tranche/DeliveryNextPinLaw" (23 : Nat) ({ cls := "com/example/tranche/tranche/Payout", name := "<init>", desc := "(Lcom/example/tranche/tranche/Payout$Kind;Ljava/lang/String;Ljava/lang/String;J)V" } : Jvm.MethodName)) ∈ tables_1 := List.mem_of_getElem? (i := 36) rfl
theorem w37 : (Jvm.Cond.instanceMethod ({ cls := "com/example/tranche/tranche/Payout", name := "<init>", desc := "(Lcom/example/tranche/tranche/Payout$Kind;Ljava/lang/String;Ljava/lang/String;J)V" } : Jvm.MethodName)) ∈ tables_1 := List.mem_of_getElem? (i := 37) rfl
theorem w38 : (Jvm.Cond.code ({ cls := "com/example/tranche/tranche/Payout", name := "<init>", desc := "(Lcom/example/tranche/tranche/Payout$Kind;Ljava/lang/String;Ljava/lang/String;J)V" } : Jvm.MethodName) prog_9_method_1_code (6 : Nat) (Option.none : Option Jvm.ClassFile.FieldType)) ∈ tables_1 := List.mem_of_getElem? (i := 38) rfl
theorem w39 : (Jvm.Cond.methodLink "com/example/tranche/tranche/Payout" (1 : Nat) ({ cls := "java/lang/Object", name := "<init>", desc := "()V" } : Jvm.MethodName)) ∈ tables_1 := List.mem_of_getElem? (i := 39) rfl
theorem w40 : (Jvm.Cond.fieldLink "com/example/tranche/tranche/Payout" (7 : Nat) "com/example/tranche/tranche/Payout" "kind" "Lcom/example/tranche/tranche/Payout$Kind;") ∈ tables_1 := List.mem_of_getElem? (i := 40) rfl
theorem w41 : (Jvm.Cond.laysFinal "com/example/tranche/tranche/Payout" "com/example/tranche/tranche/Payout" "kind" "Lcom/example/tranche/tranche/Payout$Kind;") ∈ tables_1 := List.mem_of_getElem? (i := 41) rfl
theorem w42 : (Jvm.Cond.fieldLink "com/example/tranche/tranche/Payout" (13 : Nat) "com/example/tranche/tranche/Payout" "packetId" "Ljava/lang/String;") ∈ tables_1 := List.mem_of_getElem? (i := 42) rfl
theorem w43 : (Jvm.Cond.laysFinal "com/example/tranche/tranche/Payout" "com/example/tranche/tranche/Payout" "packetId" "Ljava/lang/String;") ∈ tables_1 := List.mem_of_getElem? (i := 43) rfl
theorem w44 : (Jvm.Cond.fieldLink "com/example/tranche/tranche/Payout" (17 : Nat) "com/example/tranche/tranche/Payout" "user" "Ljava/lang/String;") ∈ tables_1 := List.mem_of_getElem? (i := 44) rfl
theorem w45 : (Jvm.Cond.laysFinal "com/example/tranche/tranche/Payout" "com/example/tranche/tranche/Payout" "user" "Ljava/lang/String;") ∈ tables_1 := List.mem_of_getElem? (i := 45) rfl
theorem w46 : (Jvm.Cond.fieldLink "com/example/tranche/tranche/Payout" (20 : Nat) "com/example/tranche/tranche/Payout" "amountCents" "J") ∈ tables_1 := List.mem_of_getElem? (i := 46) rfl
theorem w47 : (Jvm.Cond.laysFinal "com/example/tranche/tranche/Payout" "com/example/tranche/tranche/Payout" "amountCents" "J") ∈ tables_1 := List.mem_of_getElem? (i := 47) rfl
theorem w48 : (Jvm.Cond.classLink "com/example/tranche/tranche/DeliveryNextPinLaw" (26 : Nat) "com/example/tranche/tranche/Delivery") ∈ tables_1 := List.mem_of_getElem? (i := 48) rfl
theorem w49 : (Jvm.Cond.instantiable "com/example/tranche/tranche/Delivery" (3 : Nat)) ∈ tables_1 := List.mem_of_getElem? (i := 49) rfl
theorem w50 : (Jvm.Cond.initialized "com/example/tranche/tranche/Delivery") ∈ tables_1 := List.mem_of_getElem? (i := 50) rfl
theorem w51 : (Jvm.Cond.methodLink "com/example/tranche/tranche/DeliveryNextPinLaw" (28 : Nat) ({ cls := "com/example/tranche/tranche/Delivery", name := "<init>", desc := "(Ljava/lang/String;Lcom/example/tranche/tranche/Payout;I)V" } : Jvm.MethodName)) ∈ tables_1 := List.mem_of_getElem? (i := 51) rfl
theorem w52 : (Jvm.Cond.instanceMethod ({ cls := "com/example/tranche/tranche/Delivery", name := "<init>", desc := "(Ljava/lang/String;Lcom/example/tranche/tranche/Payout;I)V" } : Jvm.MethodName)) ∈ tables_1 := List.mem_of_getElem? (i := 52) rfl
theorem w53 : (Jvm.Cond.code ({ cls := "com/example/tranche/tranche/Delivery", name := "<init>", desc := "(Ljava/lang/String;Lcom/example/tranche/tranche/Payout;I)V" } : Jvm.MethodName) prog_4_method_1_code (4 : Nat) (Option.none : Option Jvm.ClassFile.FieldType)) ∈ tables_1 := List.mem_of_getElem? (i := 53) rfl
theorem w54 : (Jvm.Cond.methodLink "com/example/tranche/tranche/Delivery" (1 : Nat) ({ cls := "java/lang/Object", name := "<init>", desc := "()V" } : Jvm.MethodName)) ∈ tables_1 := List.mem_of_getElem? (i := 54) rfl
theorem w55 : (Jvm.Cond.fieldLink "com/example/tranche/tranche/Delivery" (7 : Nat) "com/example/tranche/tranche/Delivery" "payoutId" "Ljava/lang/String;") ∈ tables_1 := List.mem_of_getElem? (i := 55) rfl
theorem w56 : (Jvm.Cond.laysFinal "com/example/tranche/tranche/Delivery" "com/example/tranche/tranche/Delivery" "payoutId" "Ljava/lang/String;") ∈ tables_1 := List.mem_of_getElem? (i := 56) rfl
theorem w57 : (Jvm.Cond.fieldLink "com/example/tranche/tranche/Delivery" (13 : Nat) "com/example/tranche/tranche/Delivery" "payout" "Lcom/example/tranche/tranche/Payout;") ∈ tables_1 := List.mem_of_getElem? (i := 57) rfl
theorem w58 : (Jvm.Cond.laysFinal "com/example/tranche/tranche/Delivery" "com/example/tranche/tranche/Delivery" "payout" "Lcom/example/tranche/tranche/Payout;") ∈ tables_1 := List.mem_of_getElem? (i := 58) rfl
theorem w59 : (Jvm.Cond.fieldLink "com/example/tranche/tranche/Delivery" (17 : Nat) "com/example/tranche/tranche/Delivery" "tries" "I") ∈ tables_1 := List.mem_of_getElem? (i := 59) rfl
theorem w60 : (Jvm.Cond.laysFinal "com/example/tranche/tranche/Delivery" "com/example/tranche/tranche/Delivery" "tries" "I") ∈ tables_1 := List.mem_of_getElem? (i := 60) rfl
theorem w61 : (Jvm.Cond.methodLink "com/example/tranche/tranche/DeliveryNextPinLaw" (31 : Nat) ({ cls := "com/example/tranche/tranche/Delivery", name := "next", desc := "()Lcom/example/tranche/tranche/Delivery;" } : Jvm.MethodName)) ∈ tables_1 := List.mem_of_getElem? (i := 61) rfl
theorem w62 : (Jvm.Cond.declares ({ cls := "com/example/tranche/tranche/Delivery", name := "next", desc := "()Lcom/example/tranche/tranche/Delivery;" } : Jvm.MethodName)) ∈ tables_1 := List.mem_of_getElem? (i := 62) rfl
theorem w63 : (Jvm.Cond.instanceMethod ({ cls := "com/example/tranche/tranche/Delivery", name := "next", desc := "()Lcom/example/tranche/tranche/Delivery;" } : Jvm.MethodName)) ∈ tables_1 := List.mem_of_getElem? (i := 63) rfl
theorem w64 : (Jvm.Cond.selects "com/example/tranche/tranche/Delivery" ({ cls := "com/example/tranche/tranche/Delivery", name := "next", desc := "()Lcom/example/tranche/tranche/Delivery;" } : Jvm.MethodName) ({ cls := "com/example/tranche/tranche/Delivery", name := "next", desc := "()Lcom/example/tranche/tranche/Delivery;" } : Jvm.MethodName)) ∈ tables_1 := List.mem_of_getElem? (i := 64) rfl
theorem w65 : (Jvm.Cond.code ({ cls := "com/example/tranche/tranche/Delivery", name := "next", desc := "()Lcom/example/tranche/tranche/Delivery;" } : Jvm.MethodName) prog_4_method_5_code (1 : Nat) (Option.some (Jvm.ClassFile.FieldType.object "com/example/tranche/tranche/Delivery"))) ∈ tables_1 := List.mem_of_getElem? (i := 65) rfl
theorem w66 : (Jvm.Cond.classLink "com/example/tranche/tranche/Delivery" (8 : Nat) "com/example/tranche/tranche/Delivery") ∈ tables_1 := List.mem_of_getElem? (i := 66) rfl
theorem w67 : (Jvm.Cond.methodLink "com/example/tranche/tranche/Delivery" (21 : Nat) ({ cls := "com/example/tranche/tranche/Delivery", name := "<init>", desc := "(Ljava/lang/String;Lcom/example/tranche/tranche/Payout;I)V" } : Jvm.MethodName)) ∈ tables_1 := List.mem_of_getElem? (i := 67) rfl
theorem w68 : (Jvm.Cond.methodLink "com/example/tranche/tranche/DeliveryNextPinLaw" (35 : Nat) ({ cls := "com/example/tranche/tranche/Delivery", name := "payoutId", desc := "()Ljava/lang/String;" } : Jvm.MethodName)) ∈ tables_1 := List.mem_of_getElem? (i := 68) rfl
theorem w69 : (Jvm.Cond.declares ({ cls := "com/example/tranche/tranche/Delivery", name := "payoutId", desc := "()Ljava/lang/String;" } : Jvm.MethodName)) ∈ tables_1 := List.mem_of_getElem? (i := 69) rfl
theorem w70 : (Jvm.Cond.instanceMethod ({ cls := "com/example/tranche/tranche/Delivery", name := "payoutId", desc := "()Ljava/lang/String;" } : Jvm.MethodName)) ∈ tables_1 := List.mem_of_getElem? (i := 70) rfl
theorem w71 : (Jvm.Cond.selects "com/example/tranche/tranche/Delivery" ({ cls := "com/example/tranche/tranche/Delivery", name := "payoutId", desc := "()Ljava/lang/String;" } : Jvm.MethodName) ({ cls := "com/example/tranche/tranche/Delivery", name := "payoutId", desc := "()Ljava/lang/String;" } : Jvm.MethodName)) ∈ tables_1 := List.mem_of_getElem? (i := 71) rfl
theorem w72 : (Jvm.Cond.code ({ cls := "com/example/tranche/tranche/Delivery", name := "payoutId", desc := "()Ljava/lang/String;" } : Jvm.MethodName) prog_4_method_2_code (1 : Nat) (Option.some (Jvm.ClassFile.FieldType.object "java/lang/String"))) ∈ tables_1 := List.mem_of_getElem? (i := 72) rfl
theorem w73 : (Jvm.Cond.methodLink "com/example/tranche/tranche/DeliveryNextPinLaw" (39 : Nat) ({ cls := "com/example/tranche/tranche/Delivery", name := "payout", desc := "()Lcom/example/tranche/tranche/Payout;" } : Jvm.MethodName)) ∈ tables_1 := List.mem_of_getElem? (i := 73) rfl
theorem w74 : (Jvm.Cond.declares ({ cls := "com/example/tranche/tranche/Delivery", name := "payout", desc := "()Lcom/example/tranche/tranche/Payout;" } : Jvm.MethodName)) ∈ tables_1 := List.mem_of_getElem? (i := 74) rfl
theorem w75 : (Jvm.Cond.instanceMethod ({ cls := "com/example/tranche/tranche/Delivery", name := "payout", desc := "()Lcom/example/tranche/tranche/Payout;" } : Jvm.MethodName)) ∈ tables_1 := List.mem_of_getElem? (i := 75) rfl
theorem w76 : (Jvm.Cond.selects "com/example/tranche/tranche/Delivery" ({ cls := "com/example/tranche/tranche/Delivery", name := "payout", desc := "()Lcom/example/tranche/tranche/Payout;" } : Jvm.MethodName) ({ cls := "com/example/tranche/tranche/Delivery", name := "payout", desc := "()Lcom/example/tranche/tranche/Payout;" } : Jvm.MethodName)) ∈ tables_1 := List.mem_of_getElem? (i := 76) rfl
theorem w77 : (Jvm.Cond.code ({ cls := "com/example/tranche/tranche/Delivery", name := "payout", desc := "()Lcom/example/tranche/tranche/Payout;" } : Jvm.MethodName) prog_4_method_3_code (1 : Nat) (Option.some (Jvm.ClassFile.FieldType.object "com/example/tranche/tranche/Payout"))) ∈ tables_1 := List.mem_of_getElem? (i := 77) rfl
theorem w78 : (Jvm.Cond.methodLink "com/example/tranche/tranche/DeliveryNextPinLaw" (43 : Nat) ({ cls := "com/example/tranche/tranche/Delivery", name := "tries", desc := "()I" } : Jvm.MethodName)) ∈ tables_1 := List.mem_of_getElem? (i := 78) rfl
theorem w79 : (Jvm.Cond.declares ({ cls := "com/example/tranche/tranche/Delivery", name := "tries", desc := "()I" } : Jvm.MethodName)) ∈ tables_1 := List.mem_of_getElem? (i := 79) rfl
theorem w80 : (Jvm.Cond.instanceMethod ({ cls := "com/example/tranche/tranche/Delivery", name := "tries", desc := "()I" } : Jvm.MethodName)) ∈ tables_1 := List.mem_of_getElem? (i := 80) rfl
theorem w81 : (Jvm.Cond.selects "com/example/tranche/tranche/Delivery" ({ cls := "com/example/tranche/tranche/Delivery", name := "tries", desc := "()I" } : Jvm.MethodName) ({ cls := "com/example/tranche/tranche/Delivery", name := "tries", desc := "()I" } : Jvm.MethodName)) ∈ tables_1 := List.mem_of_getElem? (i := 81) rfl
theorem w82 : (Jvm.Cond.code ({ cls := "com/example/tranche/tranche/Delivery", name := "tries", desc := "()I" } : Jvm.MethodName) prog_4_method_4_code (1 : Nat) (Option.some Jvm.ClassFile.FieldType.int)) ∈ tables_1 := List.mem_of_getElem? (i := 82) rfl
theorem w83 : (Jvm.Cond.fieldLink "com/example/tranche/tranche/DeliveryNextPinLaw" (12 : Nat) "com/example/tranche/tranche/Payout$Kind" "GRAB" "Lcom/example/tranche/tranche/Payout$Kind;") ∈ tables_1 := List.mem_of_getElem? (i := 83) rfl
theorem w84 : (Jvm.Cond.laysStatic "com/example/tranche/tranche/Payout$Kind" "GRAB" "Lcom/example/tranche/tranche/Payout$Kind;") ∈ tables_1 := List.mem_of_getElem? (i := 84) rfl
theorem pd0 : parseMethodDescriptor "(Ljava/lang/String;Lcom/example/tranche/tranche/Payout;I)V" = some ⟨[(.object "java/lang/String"), (.object "com/example/tranche/tranche/Payout"), .int], none⟩ := by decide +kernel
theorem pd1 : parseMethodDescriptor "(Lcom/example/tranche/tranche/Payout$Kind;Ljava/lang/String;Ljava/lang/String;J)V" = some ⟨[(.object "com/example/tranche/tranche/Payout$Kind"), (.object "java/lang/String"), (.object "java/lang/String"), .long], none⟩ := by decide +kernel
theorem pd2 : parseMethodDescriptor "()Lcom/example/tranche/tranche/Delivery;" = some ⟨[], some (.object "com/example/tranche/tranche/Delivery")⟩ := by decide +kernel
theorem pd3 : parseMethodDescriptor "()Ljava/lang/String;" = some ⟨[], some (.object "java/lang/String")⟩ := by decide +kernel
theorem pd4 : parseMethodDescriptor "()Lcom/example/tranche/tranche/Payout;" = some ⟨[], some (.object "com/example/tranche/tranche/Payout")⟩ := by decide +kernel
theorem pd5 : parseMethodDescriptor "()I" = some ⟨[], some .int⟩ := by decide +kernel
theorem pd6 : parseMethodDescriptor "([C)V" = some ⟨[(.array .char)], none⟩ := by decide +kernel
theorem pn0 : plainName "com/example/tranche/tranche/Payout" = true := by first | (simp [plainName, overriddenIn]; done) | decide +kernel
theorem pn1 : plainName "com/example/tranche/tranche/Delivery" = true := by first | (simp [plainName, overriddenIn]; done) | decide +kernel
theorem pn2 : plainName "com/example/tranche/tranche/DeliveryNextPinLaw" = true := by first | (simp [plainName, overriddenIn]; done) | decide +kernel
theorem i0_0 : Jvm.Own.Ins prog_9_method_1_code 0 (.aload_n 0) 1 1 := ⟨by decide +kernel, rfl⟩
theorem i0_1 : Jvm.Own.Ins prog_9_method_1_code 1 (.invokespecial 1) 3 4 := ⟨by decide +kernel, rfl⟩
theorem i0_4 : Jvm.Own.Ins prog_9_method_1_code 4 (.aload_n 0) 1 5 := ⟨by decide +kernel, rfl⟩
theorem i0_5 : Jvm.Own.Ins prog_9_method_1_code 5 (.aload_n 1) 1 6 := ⟨by decide +kernel, rfl⟩
theorem i0_6 : Jvm.Own.Ins prog_9_method_1_code 6 (.putfield 7) 3 9 := ⟨by decide +kernel, rfl⟩
theorem i0_9 : Jvm.Own.Ins prog_9_method_1_code 9 (.aload_n 0) 1 10 := ⟨by decide +kernel, rfl⟩
theorem i0_10 : Jvm.Own.Ins prog_9_method_1_code 10 (.aload_n 2) 1 11 := ⟨by decide +kernel, rfl⟩
theorem i0_11 : Jvm.Own.Ins prog_9_method_1_code 11 (.putfield 13) 3 14 := ⟨by decide +kernel, rfl⟩
theorem i0_14 : Jvm.Own.Ins prog_9_method_1_code 14 (.aload_n 0) 1 15 := ⟨by decide +kernel, rfl⟩
theorem i0_15 : Jvm.Own.Ins prog_9_method_1_code 15 (.aload_n 3) 1 16 := ⟨by decide +kernel, rfl⟩
theorem i0_16 : Jvm.Own.Ins prog_9_method_1_code 16 (.putfield 17) 3 19 := ⟨by decide +kernel, rfl⟩
theorem i0_19 : Jvm.Own.Ins prog_9_method_1_code 19 (.aload_n 0) 1 20 := ⟨by decide +kernel, rfl⟩
theorem i0_20 : Jvm.Own.Ins prog_9_method_1_code 20 (.lload 4) 2 22 := ⟨by decide +kernel, rfl⟩
theorem i0_22 : Jvm.Own.Ins prog_9_method_1_code 22 (.putfield 20) 3 25 := ⟨by decide +kernel, rfl⟩
theorem i0_25 : Jvm.Own.Ins prog_9_method_1_code 25 (.return_) 1 26 := ⟨by decide +kernel, rfl⟩
theorem i1_0 : Jvm.Own.Ins prog_4_method_1_code 0 (.aload_n 0) 1 1 := ⟨by decide +kernel, rfl⟩
theorem i1_1 : Jvm.Own.Ins prog_4_method_1_code 1 (.invokespecial 1) 3 4 := ⟨by decide +kernel, rfl⟩
theorem i1_4 : Jvm.Own.Ins prog_4_method_1_code 4 (.aload_n 0) 1 5 := ⟨by decide +kernel, rfl⟩
theorem i1_5 : Jvm.Own.Ins prog_4_method_1_code 5 (.aload_n 1) 1 6 := ⟨by decide +kernel, rfl⟩
theorem i1_6 : Jvm.Own.Ins prog_4_method_1_code 6 (.putfield 7) 3 9 := ⟨by decide +kernel, rfl⟩
theorem i1_9 : Jvm.Own.Ins prog_4_method_1_code 9 (.aload_n 0) 1 10 := ⟨by decide +kernel, rfl⟩
theorem i1_10 : Jvm.Own.Ins prog_4_method_1_code 10 (.aload_n 2) 1 11 := ⟨by decide +kernel, rfl⟩
theorem i1_11 : Jvm.Own.Ins prog_4_method_1_code 11 (.putfield 13) 3 14 := ⟨by decide +kernel, rfl⟩
theorem i1_14 : Jvm.Own.Ins prog_4_method_1_code 14 (.aload_n 0) 1 15 := ⟨by decide +kernel, rfl⟩
theorem i1_15 : Jvm.Own.Ins prog_4_method_1_code 15 (.iload_n 3) 1 16 := ⟨by decide +kernel, rfl⟩
theorem i1_16 : Jvm.Own.Ins prog_4_method_1_code 16 (.putfield 17) 3 19 := ⟨by decide +kernel, rfl⟩
theorem i1_19 : Jvm.Own.Ins prog_4_method_1_code 19 (.return_) 1 20 := ⟨by decide +kernel, rfl⟩
theorem i2_0 : Jvm.Own.Ins prog_4_method_5_code 0 (.new 8) 3 3 := ⟨by decide +kernel, rfl⟩
theorem i2_3 : Jvm.Own.Ins prog_4_method_5_code 3 (.dup) 1 4 := ⟨by decide +kernel, rfl⟩
theorem i2_4 : Jvm.Own.Ins prog_4_method_5_code 4 (.aload_n 0) 1 5 := ⟨by decide +kernel, rfl⟩
theorem i2_5 : Jvm.Own.Ins prog_4_method_5_code 5 (.getfield 7) 3 8 := ⟨by decide +kernel, rfl⟩
theorem i2_8 : Jvm.Own.Ins prog_4_method_5_code 8 (.aload_n 0) 1 9 := ⟨by decide +kernel, rfl⟩
theorem i2_9 : Jvm.Own.Ins prog_4_method_5_code 9 (.getfield 13) 3 12 := ⟨by decide +kernel, rfl⟩
theorem i2_12 : Jvm.Own.Ins prog_4_method_5_code 12 (.aload_n 0) 1 13 := ⟨by decide +kernel, rfl⟩
theorem i2_13 : Jvm.Own.Ins prog_4_method_5_code 13 (.getfield 17) 3 16 := ⟨by decide +kernel, rfl⟩
theorem i2_16 : Jvm.Own.Ins prog_4_method_5_code 16 (.iconst 1) 1 17 := ⟨by decide +kernel, rfl⟩
theorem i2_17 : Jvm.Own.Ins prog_4_method_5_code 17 (.iadd) 1 18 := ⟨by decide +kernel, rfl⟩
theorem i2_18 : Jvm.Own.Ins prog_4_method_5_code 18 (.invokespecial 21) 3 21 := ⟨by decide +kernel, rfl⟩
theorem i2_21 : Jvm.Own.Ins prog_4_method_5_code 21 (.areturn) 1 22 := ⟨by decide +kernel, rfl⟩
theorem i3_0 : Jvm.Own.Ins prog_4_method_2_code 0 (.aload_n 0) 1 1 := ⟨by decide +kernel, rfl⟩
theorem i3_1 : Jvm.Own.Ins prog_4_method_2_code 1 (.getfield 7) 3 4 := ⟨by decide +kernel, rfl⟩
theorem i3_4 : Jvm.Own.Ins prog_4_method_2_code 4 (.areturn) 1 5 := ⟨by decide +kernel, rfl⟩
theorem i4_0 : Jvm.Own.Ins prog_4_method_3_code 0 (.aload_n 0) 1 1 := ⟨by decide +kernel, rfl⟩
theorem i4_1 : Jvm.Own.Ins prog_4_method_3_code 1 (.getfield 13) 3 4 := ⟨by decide +kernel, rfl⟩
theorem i4_4 : Jvm.Own.Ins prog_4_method_3_code 4 (.areturn) 1 5 := ⟨by decide +kernel, rfl⟩
theorem i5_0 : Jvm.Own.Ins prog_4_method_4_code 0 (.aload_n 0) 1 1 := ⟨by decide +kernel, rfl⟩
theorem i5_1 : Jvm.Own.Ins prog_4_method_4_code 1 (.getfield 17) 3 4 := ⟨by decide +kernel, rfl⟩
theorem i5_4 : Jvm.Own.Ins prog_4_method_4_code 4 (.ireturn) 1 5 := ⟨by decide +kernel, rfl⟩
theorem i6_0 : Jvm.Own.Ins code 0 (.iconst 2) 1 1 := ⟨at_0, rfl⟩
theorem i6_1 : Jvm.Own.Ins code 1 (.newarray .char) 2 3 := ⟨at_1, rfl⟩
theorem i6_3 : Jvm.Own.Ins code 3 (.astore 5) 2 5 := ⟨at_3, rfl⟩
theorem i6_5 : Jvm.Own.Ins code 5 (.aload 5) 2 7 := ⟨at_5, rfl⟩
theorem i6_7 : Jvm.Own.Ins code 7 (.iconst 0) 1 8 := ⟨at_7, rfl⟩
theorem i6_8 : Jvm.Own.Ins code 8 (.iload_n 0) 1 9 := ⟨at_8, rfl⟩
theorem i6_9 : Jvm.Own.Ins code 9 (.sipush 255) 3 12 := ⟨at_9, rfl⟩
theorem i6_12 : Jvm.Own.Ins code 12 (.iand) 1 13 := ⟨at_12, rfl⟩
theorem i6_13 : Jvm.Own.Ins code 13 (.i2c) 1 14 := ⟨at_13, rfl⟩
theorem i6_14 : Jvm.Own.Ins code 14 (.castore) 1 15 := ⟨at_14, rfl⟩
theorem i6_15 : Jvm.Own.Ins code 15 (.aload 5) 2 17 := ⟨at_15, rfl⟩
theorem i6_17 : Jvm.Own.Ins code 17 (.iconst 1) 1 18 := ⟨at_17, rfl⟩
theorem i6_18 : Jvm.Own.Ins code 18 (.iload_n 0) 1 19 := ⟨at_18, rfl⟩
theorem i6_19 : Jvm.Own.Ins code 19 (.bipush 8) 2 21 := ⟨at_19, rfl⟩
theorem i6_21 : Jvm.Own.Ins code 21 (.iushr) 1 22 := ⟨at_21, rfl⟩
theorem i6_22 : Jvm.Own.Ins code 22 (.sipush 255) 3 25 := ⟨at_22, rfl⟩
theorem i6_25 : Jvm.Own.Ins code 25 (.iand) 1 26 := ⟨at_25, rfl⟩
theorem i6_26 : Jvm.Own.Ins code 26 (.i2c) 1 27 := ⟨at_26, rfl⟩
theorem i6_27 : Jvm.Own.Ins code 27 (.castore) 1 28 := ⟨at_27, rfl⟩
theorem i6_28 : Jvm.Own.Ins code 28 (.new 7) 3 31 := ⟨at_28, rfl⟩
theorem i6_31 : Jvm.Own.Ins code 31 (.dup) 1 32 := ⟨at_31, rfl⟩
theorem i6_32 : Jvm.Own.Ins code 32 (.aload 5) 2 34 := ⟨at_32, rfl⟩
theorem i6_34 : Jvm.Own.Ins code 34 (.invokespecial 9) 3 37 := ⟨at_34, rfl⟩
theorem i6_37 : Jvm.Own.Ins code 37 (.astore 6) 2 39 := ⟨at_37, rfl⟩
theorem i6_39 : Jvm.Own.Ins code 39 (.iconst 1) 1 40 := ⟨at_39, rfl⟩
theorem i6_40 : Jvm.Own.Ins code 40 (.newarray .char) 2 42 := ⟨at_40, rfl⟩
theorem i6_42 : Jvm.Own.Ins code 42 (.astore 7) 2 44 := ⟨at_42, rfl⟩
theorem i6_44 : Jvm.Own.Ins code 44 (.aload 7) 2 46 := ⟨at_44, rfl⟩
theorem i6_46 : Jvm.Own.Ins code 46 (.iconst 0) 1 47 := ⟨at_46, rfl⟩
theorem i6_47 : Jvm.Own.Ins code 47 (.iload_n 0) 1 48 := ⟨at_47, rfl⟩
theorem i6_48 : Jvm.Own.Ins code 48 (.bipush 16) 2 50 := ⟨at_48, rfl⟩
theorem i6_50 : Jvm.Own.Ins code 50 (.iushr) 1 51 := ⟨at_50, rfl⟩
theorem i6_51 : Jvm.Own.Ins code 51 (.sipush 255) 3 54 := ⟨at_51, rfl⟩
theorem i6_54 : Jvm.Own.Ins code 54 (.iand) 1 55 := ⟨at_54, rfl⟩
theorem i6_55 : Jvm.Own.Ins code 55 (.i2c) 1 56 := ⟨at_55, rfl⟩
theorem i6_56 : Jvm.Own.Ins code 56 (.castore) 1 57 := ⟨at_56, rfl⟩
theorem i6_57 : Jvm.Own.Ins code 57 (.new 7) 3 60 := ⟨at_57, rfl⟩
theorem i6_60 : Jvm.Own.Ins code 60 (.dup) 1 61 := ⟨at_60, rfl⟩
theorem i6_61 : Jvm.Own.Ins code 61 (.aload 7) 2 63 := ⟨at_61, rfl⟩
theorem i6_63 : Jvm.Own.Ins code 63 (.invokespecial 9) 3 66 := ⟨at_63, rfl⟩
theorem i6_66 : Jvm.Own.Ins code 66 (.astore 8) 2 68 := ⟨at_66, rfl⟩
theorem i6_68 : Jvm.Own.Ins code 68 (.iload 4) 2 70 := ⟨at_68, rfl⟩
theorem i6_70 : Jvm.Own.Ins code 70 (.iconst 1) 1 71 := ⟨at_70, rfl⟩
theorem i6_71 : Jvm.Own.Ins code 71 (.iand) 1 72 := ⟨at_71, rfl⟩
theorem i6_72 : Jvm.Own.Ins code 72 (.ifCond .eq 9) 3 75 := ⟨at_72, rfl⟩
theorem i6_75 : Jvm.Own.Ins code 75 (.getstatic 12) 3 78 := ⟨at_75, rfl⟩
theorem i6_78 : Jvm.Own.Ins code 78 (.goto 6) 3 81 := ⟨at_78, rfl⟩
theorem i6_81 : Jvm.Own.Ins code 81 (.getstatic 18) 3 84 := ⟨at_81, rfl⟩
theorem i6_84 : Jvm.Own.Ins code 84 (.astore 9) 2 86 := ⟨at_84, rfl⟩
theorem i6_86 : Jvm.Own.Ins code 86 (.new 21) 3 89 := ⟨at_86, rfl⟩
theorem i6_89 : Jvm.Own.Ins code 89 (.dup) 1 90 := ⟨at_89, rfl⟩
theorem i6_90 : Jvm.Own.Ins code 90 (.aload 9) 2 92 := ⟨at_90, rfl⟩
theorem i6_92 : Jvm.Own.Ins code 92 (.aload 8) 2 94 := ⟨at_92, rfl⟩
theorem i6_94 : Jvm.Own.Ins code 94 (.aload 8) 2 96 := ⟨at_94, rfl⟩
theorem i6_96 : Jvm.Own.Ins code 96 (.lload_n 2) 1 97 := ⟨at_96, rfl⟩
theorem i6_97 : Jvm.Own.Ins code 97 (.invokespecial 23) 3 100 := ⟨at_97, rfl⟩
theorem i6_100 : Jvm.Own.Ins code 100 (.astore 10) 2 102 := ⟨at_100, rfl⟩
theorem i6_102 : Jvm.Own.Ins code 102 (.new 26) 3 105 := ⟨at_102, rfl⟩
theorem i6_105 : Jvm.Own.Ins code 105 (.dup) 1 106 := ⟨at_105, rfl⟩
theorem i6_106 : Jvm.Own.Ins code 106 (.aload 6) 2 108 := ⟨at_106, rfl⟩
theorem i6_108 : Jvm.Own.Ins code 108 (.aload 10) 2 110 := ⟨at_108, rfl⟩
theorem i6_110 : Jvm.Own.Ins code 110 (.iload_n 1) 1 111 := ⟨at_110, rfl⟩
theorem i6_111 : Jvm.Own.Ins code 111 (.invokespecial 28) 3 114 := ⟨at_111, rfl⟩
theorem i6_114 : Jvm.Own.Ins code 114 (.astore 11) 2 116 := ⟨at_114, rfl⟩
theorem i6_116 : Jvm.Own.Ins code 116 (.aload 11) 2 118 := ⟨at_116, rfl⟩
theorem i6_118 : Jvm.Own.Ins code 118 (.invokevirtual 31) 3 121 := ⟨at_118, rfl⟩
theorem i6_121 : Jvm.Own.Ins code 121 (.astore 12) 2 123 := ⟨at_121, rfl⟩
theorem i6_123 : Jvm.Own.Ins code 123 (.iload_n 1) 1 124 := ⟨at_123, rfl⟩
theorem i6_124 : Jvm.Own.Ins code 124 (.iconst 1) 1 125 := ⟨at_124, rfl⟩
theorem i6_125 : Jvm.Own.Ins code 125 (.iadd) 1 126 := ⟨at_125, rfl⟩
theorem i6_126 : Jvm.Own.Ins code 126 (.istore 13) 2 128 := ⟨at_126, rfl⟩
theorem i6_128 : Jvm.Own.Ins code 128 (.aload 12) 2 130 := ⟨at_128, rfl⟩
theorem i6_130 : Jvm.Own.Ins code 130 (.ifnull 10) 3 133 := ⟨at_130, rfl⟩
theorem i6_133 : Jvm.Own.Ins code 133 (.aload 12) 2 135 := ⟨at_133, rfl⟩
theorem i6_135 : Jvm.Own.Ins code 135 (.aload 11) 2 137 := ⟨at_135, rfl⟩
theorem i6_137 : Jvm.Own.Ins code 137 (.if_acmp .ne 5) 3 140 := ⟨at_137, rfl⟩
theorem i6_142 : Jvm.Own.Ins code 142 (.aload 12) 2 144 := ⟨at_142, rfl⟩
theorem i6_144 : Jvm.Own.Ins code 144 (.invokevirtual 35) 3 147 := ⟨at_144, rfl⟩
theorem i6_147 : Jvm.Own.Ins code 147 (.aload 6) 2 149 := ⟨at_147, rfl⟩
theorem i6_149 : Jvm.Own.Ins code 149 (.if_acmp .ne 27) 3 152 := ⟨at_149, rfl⟩
theorem i6_152 : Jvm.Own.Ins code 152 (.aload 12) 2 154 := ⟨at_152, rfl⟩
theorem i6_154 : Jvm.Own.Ins code 154 (.invokevirtual 39) 3 157 := ⟨at_154, rfl⟩
theorem i6_157 : Jvm.Own.Ins code 157 (.aload 10) 2 159 := ⟨at_157, rfl⟩
theorem i6_159 : Jvm.Own.Ins code 159 (.if_acmp .ne 17) 3 162 := ⟨at_159, rfl⟩
theorem i6_162 : Jvm.Own.Ins code 162 (.aload 12) 2 164 := ⟨at_162, rfl⟩
theorem i6_164 : Jvm.Own.Ins code 164 (.invokevirtual 43) 3 167 := ⟨at_164, rfl⟩
theorem i6_167 : Jvm.Own.Ins code 167 (.iload 13) 2 169 := ⟨at_167, rfl⟩
theorem i6_169 : Jvm.Own.Ins code 169 (.if_icmp .ne 7) 3 172 := ⟨at_169, rfl⟩
theorem i6_172 : Jvm.Own.Ins code 172 (.iconst 1) 1 173 := ⟨at_172, rfl⟩
theorem i6_173 : Jvm.Own.Ins code 173 (.goto 4) 3 176 := ⟨at_173, rfl⟩
theorem i6_177 : Jvm.Own.Ins code 177 (.istore 14) 2 179 := ⟨at_177, rfl⟩
theorem i6_179 : Jvm.Own.Ins code 179 (.aload 11) 2 181 := ⟨at_179, rfl⟩
theorem i6_181 : Jvm.Own.Ins code 181 (.invokevirtual 35) 3 184 := ⟨at_181, rfl⟩
theorem i6_184 : Jvm.Own.Ins code 184 (.aload 6) 2 186 := ⟨at_184, rfl⟩
theorem i6_186 : Jvm.Own.Ins code 186 (.if_acmp .ne 26) 3 189 := ⟨at_186, rfl⟩
theorem i6_189 : Jvm.Own.Ins code 189 (.aload 11) 2 191 := ⟨at_189, rfl⟩
theorem i6_191 : Jvm.Own.Ins code 191 (.invokevirtual 39) 3 194 := ⟨at_191, rfl⟩
theorem i6_194 : Jvm.Own.Ins code 194 (.aload 10) 2 196 := ⟨at_194, rfl⟩
theorem i6_196 : Jvm.Own.Ins code 196 (.if_acmp .ne 16) 3 199 := ⟨at_196, rfl⟩
theorem i6_199 : Jvm.Own.Ins code 199 (.aload 11) 2 201 := ⟨at_199, rfl⟩
theorem i6_201 : Jvm.Own.Ins code 201 (.invokevirtual 43) 3 204 := ⟨at_201, rfl⟩
theorem i6_204 : Jvm.Own.Ins code 204 (.iload_n 1) 1 205 := ⟨at_204, rfl⟩
theorem i6_205 : Jvm.Own.Ins code 205 (.if_icmp .ne 7) 3 208 := ⟨at_205, rfl⟩
theorem i6_208 : Jvm.Own.Ins code 208 (.iconst 1) 1 209 := ⟨at_208, rfl⟩
theorem i6_209 : Jvm.Own.Ins code 209 (.goto 4) 3 212 := ⟨at_209, rfl⟩
theorem i6_213 : Jvm.Own.Ins code 213 (.istore 15) 2 215 := ⟨at_213, rfl⟩
theorem i6_215 : Jvm.Own.Ins code 215 (.iload 14) 2 217 := ⟨at_215, rfl⟩
theorem i6_217 : Jvm.Own.Ins code 217 (.ifCond .eq 12) 3 220 := ⟨at_217, rfl⟩
theorem i6_220 : Jvm.Own.Ins code 220 (.iload 15) 2 222 := ⟨at_220, rfl⟩
theorem i6_222 : Jvm.Own.Ins code 222 (.ifCond .eq 7) 3 225 := ⟨at_222, rfl⟩
theorem i6_225 : Jvm.Own.Ins code 225 (.iconst 1) 1 226 := ⟨at_225, rfl⟩
theorem i6_226 : Jvm.Own.Ins code 226 (.goto 4) 3 229 := ⟨at_226, rfl⟩
theorem i6_230 : Jvm.Own.Ins code 230 (.ireturn) 1 231 := ⟨at_230, rfl⟩
theorem j72_9 : Jmp 72 (9) 81 := ⟨by decide, by decide⟩
theorem j78_6 : Jmp 78 (6) 84 := ⟨by decide, by decide⟩
theorem j137_5 : Jmp 137 (5) 142 := ⟨by decide, by decide⟩
theorem j173_4 : Jmp 173 (4) 177 := ⟨by decide, by decide⟩
theorem j209_4 : Jmp 209 (4) 213 := ⟨by decide, by decide⟩
theorem j226_4 : Jmp 226 (4) 230 := ⟨by decide, by decide⟩
end Jvm.Pilot.@@N@@
namespace Jvm.Pilot.@@N@@
open Jvm Jvm.ClassFile Sem Op Lib Jvm.Free Jvm.Stand Jvm.LawKit Jvm.RoadKit Bundle Jvm.Own Jvm.Pilot.@@N@@.Jvm.D
section OwnStr
variable {C : Cx} {R : Room} {own : String} {b : ByteArray} {ml : Nat} {rt : Option FieldType} {nm : String} {q : Bool} {Z : State} {a0 : Array Value} {EL : List (String × Nat)} {n0 : Nat} {vm : Vm} {T : State} {h : Heap} {k n : Nat} {Q : Option Value → Heap → Prop} {pc pc' pt : Nat} {Ls Ls' : Array Slot} {st : List Value}
theorem own_strInit (X : On C R own b ml rt nm q Z a0 EL n0 vm T h k n) (hw : ∀ d ∈ tables_1, d.before a0 Z = true) {ix W k' n' : Nat} {x c0 : Addr} {kC : ClassId} {cs : List Int32} {d v0 w0 : Value} {z N : Int32} (hi : Jvm.Own.Ins b pc (.invokespecial ix) 3 pc')
    (w1 : (Cond.methodLink own ix ⟨"java/lang/String", "<init>", "([C)V"⟩).before a0 Z = true) (gx : n0 ≤ x) (E : Exa Z h x "java/lang/String") (V : Fld Z h x "java/lang/String" "value" "[B" v0) (W0 : Fld Z h x "java/lang/String" "coder" "B" w0) (K : Arv Z h c0 kC .char N (cs.map Value.int) d) (hN : N = Int32.ofNat cs.length) (l0 : 0 < cs.length) (l2 : cs.length ≤ 4000)
    (hp : ∀ c ∈ cs, ¬ c < 0 ∧ ¬ (255 : Int32) < c) (S : Sta Z Z.heap "java/lang/String" "COMPACT_STRINGS" "Z" (.int z)) (hz : ¬ z = 0) (Sf : Safe Z EL vm h x) (hsz : Ls.size = ml) (hW : 0 + (st.map fun v => v.category).sum = W) (hfr : 4 ≤ R.frames) (hlo : W + 65 ≤ R.locals)
    (hk' : k + 1 = k') (hn' : n + cs.length = n') (hc : k' ≤ R.cells) (hsl : n' ≤ R.slots)
    (g : ∀ T' h' t kb, On C R own b ml rt nm q Z a0 EL n0 vm T' h' k' n' → Keep h h' [x] → h.size ≤ t → Str Z h' x t kb cs → Go C R q Z EL n0 Q T' pc' Ls st) : Go C R q Z EL n0 Q T pc Ls (.ref c0 :: .ref x :: st) := by
  have hws : ∀ d ∈ StrChars.Road.words, d.before a0 Z = true := fun d hd => hw d ((by decide +kernel : ∀ d ∈ StrChars.Road.words, d ∈ tables_1) d hd)
  refine X.backI (W := W) (a := x) (argsL := [.ref c0]) hi (StrChars.Road.backV (W := W) X.zw hws (kI := 4) (hw _ w2) (cs := cs) (bs := cs.map fun c => c.toInt8.toInt32) (n := cs.length) gx X.n0le E V W0 K (S.ext X.ext0) hz rfl hN l0 l2 hp rfl hfr hlo) (fun v h' L hq => ⟨hq.2.1, CHr.keep hq.2.2.1 (sfS Sf sf0) X.chv, X.old.keep hq.2.2.1 (allS gx all0)⟩) w1 (hw _ w5) (hw _ w6) rfl (by decide) pd6 rfl rfl hsz hW hk' hn' hc hsl ?_
  rintro T' h' v L X' ⟨rfl, -, K', E', D', t, kb, -, ht, -, V', A'⟩
  refine g T' h' t kb X' K' ht ⟨E', V', D', ?_, hp⟩
  rw [hN, List.map_map] at A'; exact A'
end OwnStr
end Jvm.Pilot.@@N@@
namespace Jvm.Pilot.@@N@@
open Jvm Jvm.ClassFile Sem Op Lib Jvm.Free Jvm.Stand Jvm.LawKit Jvm.RoadKit Bundle Jvm.Own Jvm.Pilot.@@N@@.Jvm.D
set_option maxRecDepth 65536 in
set_option maxHeartbeats 40000000 in
theorem c_pay (l : Launch) {Z : State} {a0 : Array Value} {n0 : Nat} (hw : ∀ d ∈ tables_1, d.before a0 Z = true) (hEL : EW Z a0 own_EL) {zc : Int32} (hcs : Sta Z Z.heap "java/lang/String" "COMPACT_STRINGS" "Z" (.int zc)) (hcz : ¬ zc = 0) {h : Heap} (hO : Old Z n0 h) (a : Addr) (k : Addr) (p : Addr) (u : Addr) (m : Int64) (E_a : Exa Z h a "com/example/tranche/tranche/Payout") (g_a : n0 ≤ a) (F_kind : Fld Z h a "com/example/tranche/tranche/Payout" "kind" "Lcom/example/tranche/tranche/Payout$Kind;" .null) (F_packetId : Fld Z h a "com/example/tranche/tranche/Payout" "packetId" "Ljava/lang/String;" .null) (F_user : Fld Z h a "com/example/tranche/tranche/Payout" "user" "Ljava/lang/String;" .null) (F_amountCents : Fld Z h a "com/example/tranche/tranche/Payout" "amountCents" "J" (.long (0 : Int64))) :
    Con [] true l Z own_EL n0 [] (⟨"com/example/tranche/tranche/Payout", "<init>", "(Lcom/example/tranche/tranche/Payout$Kind;Ljava/lang/String;Ljava/lang/String;J)V"⟩ : MethodName) prog_9_method_1_code 6 none ({ frames := 1, cells := 0, slots := 0, locals := 12 } : Room) #[(.ref a), (.ref k), (.ref p), (.ref u), (.long m)] h (fun v h' => v = none ∧ Keep h h' [a]) := by
  refine Con.intro (Ls := #[.val (.ref a), .val (.ref k), .val (.ref p), .val (.ref u), .val (.long m), .second]) pn0 hEL hO (fun m => by first | rfl | (simp [entryFrame, mkF, argsToLocals, Value.category]; done)) fun C vm T hl X hs => ?_
  have X : On C ({ frames := 1, cells := 0, slots := 0, locals := 12 } : Room) "com/example/tranche/tranche/Payout" prog_9_method_1_code 6 none "<init>" true Z a0 own_EL n0 vm T h 0 0 := X
  refine X.aload_n i0_0 rfl rfl ?_
  refine X.initO i0_1 (hw _ w39) (hw _ w12) (hw _ w13) rfl (by decide) (W := 0) rfl (by decide) fun T1 X1 => ?_
  refine X1.aload_n i0_4 rfl rfl ?_
  refine X1.aload_n i0_5 rfl rfl ?_
  refine X1.putfield i0_6 (hw _ w40) Via.refl F_kind E_a (Or.inr ⟨(hw _ w41), rfl, rfl⟩) (hw _ w34) (ty := (.object "com/example/tranche/tranche/Payout$Kind")) (by decide) rfl rfl g_a (Safe.exa X1.zw.alike E_a (by decide) (by decide)) fun T2 h2 X2 W2 => ?_
  refine X2.aload_n i0_9 rfl rfl ?_
  refine X2.aload_n i0_10 rfl rfl ?_
  have F3 := (F_packetId.other W2 (Or.inr (slot_ne (Or.inr (hw _ w43)) (Or.inr (hw _ w41)) (by decide) (t := (.object "java/lang/String")) (t' := (.object "com/example/tranche/tranche/Payout$Kind")) (by decide) (by decide))))
  have E4 := (E_a.wr W2)
  refine X2.putfield i0_11 (hw _ w42) Via.refl F3 E4 (Or.inr ⟨(hw _ w43), rfl, rfl⟩) (hw _ w34) (ty := (.object "java/lang/String")) (by decide) rfl rfl g_a (Safe.exa X2.zw.alike E4 (by decide) (by decide)) fun T5 h5 X5 W5 => ?_
  refine X5.aload_n i0_14 rfl rfl ?_
  refine X5.aload_n i0_15 rfl rfl ?_
  have F6 := ((F_user.other W2 (Or.inr (slot_ne (Or.inr (hw _ w45)) (Or.inr (hw _ w41)) (by decide) (t := (.object "java/lang/String")) (t' := (.object "com/example/tranche/tranche/Payout$Kind")) (by decide) (by decide)))).other W5 (Or.inr (slot_ne (Or.inr (hw _ w45)) (Or.inr (hw _ w43)) (by decide) (t := (.object "java/lang/String")) (t' := (.object "java/lang/String")) (by decide) (by decide))))
  have E7 := (E4.wr W5)
  refine X5.putfield i0_16 (hw _ w44) Via.refl F6 E7 (Or.inr ⟨(hw _ w45), rfl, rfl⟩) (hw _ w34) (ty := (.object "java/lang/String")) (by decide) rfl rfl g_a (Safe.exa X5.zw.alike E7 (by decide) (by decide)) fun T8 h8 X8 W8 => ?_
  refine X8.aload_n i0_19 rfl rfl ?_
  refine X8.lload i0_20 rfl ?_
  have F9 := (((F_amountCents.other W2 (Or.inr (slot_ne (Or.inr (hw _ w47)) (Or.inr (hw _ w41)) (by decide) (t := .long) (t' := (.object "com/example/tranche/tranche/Payout$Kind")) (by decide) (by decide)))).other W5 (Or.inr (slot_ne (Or.inr (hw _ w47)) (Or.inr (hw _ w43)) (by decide) (t := .long) (t' := (.object "java/lang/String")) (by decide) (by decide)))).other W8 (Or.inr (slot_ne (Or.inr (hw _ w47)) (Or.inr (hw _ w45)) (by decide) (t := .long) (t' := (.object "java/lang/String")) (by decide) (by decide))))
  have E10 := (E7.wr W8)
  refine X8.putfield i0_22 (hw _ w46) Via.refl F9 E10 (Or.inr ⟨(hw _ w47), rfl, rfl⟩) (hw _ w34) (ty := .long) (by decide) rfl rfl g_a (Safe.exa X8.zw.alike E10 (by decide) (by decide)) fun T11 h11 X11 W11 => ?_
  exact X11.ret i0_25 rfl (by decide) (by decide) ⟨rfl, (((((Keep.refl _ [a]).wr W2 (Or.inl (List.mem_of_getElem? (i := 0) rfl))).wr W5 (Or.inl (List.mem_of_getElem? (i := 0) rfl))).wr W8 (Or.inl (List.mem_of_getElem? (i := 0) rfl))).wr W11 (Or.inl (List.mem_of_getElem? (i := 0) rfl)))⟩
set_option maxRecDepth 65536 in
set_option maxHeartbeats 40000000 in
theorem c_del (l : Launch) {Z : State} {a0 : Array Value} {n0 : Nat} (hw : ∀ d ∈ tables_1, d.before a0 Z = true) (hEL : EW Z a0 own_EL) {zc : Int32} (hcs : Sta Z Z.heap "java/lang/String" "COMPACT_STRINGS" "Z" (.int zc)) (hcz : ¬ zc = 0) {h : Heap} (hO : Old Z n0 h) (a : Addr) (i : Addr) (p : Addr) (t : Int32) (E_a : Exa Z h a "com/example/tranche/tranche/Delivery") (g_a : n0 ≤ a) (F_payoutId : Fld Z h a "com/example/tranche/tranche/Delivery" "payoutId" "Ljava/lang/String;" .null) (F_payout : Fld Z h a "com/example/tranche/tranche/Delivery" "payout" "Lcom/example/tranche/tranche/Payout;" .null) (F_tries : Fld Z h a "com/example/tranche/tranche/Delivery" "tries" "I" (.int (0 : Int32))) :
    Con [] true l Z own_EL n0 [] (⟨"com/example/tranche/tranche/Delivery", "<init>", "(Ljava/lang/String;Lcom/example/tranche/tranche/Payout;I)V"⟩ : MethodName) prog_4_method_1_code 4 none ({ frames := 1, cells := 0, slots := 0, locals := 12 } : Room) #[(.ref a), (.ref i), (.ref p), (.int t)] h (fun v h' => v = none ∧ Keep h h' [a] ∧ Fld Z h' a "com/example/tranche/tranche/Delivery" "payoutId" "Ljava/lang/String;" (.ref i) ∧ Fld Z h' a "com/example/tranche/tranche/Delivery" "payout" "Lcom/example/tranche/tranche/Payout;" (.ref p) ∧ Fld Z h' a "com/example/tranche/tranche/Delivery" "tries" "I" (.int t)) := by
  refine Con.intro (Ls := #[.val (.ref a), .val (.ref i), .val (.ref p), .val (.int t)]) pn1 hEL hO (fun m => by first | rfl | (simp [entryFrame, mkF, argsToLocals, Value.category]; done)) fun C vm T hl X hs => ?_
  have X : On C ({ frames := 1, cells := 0, slots := 0, locals := 12 } : Room) "com/example/tranche/tranche/Delivery" prog_4_method_1_code 4 none "<init>" true Z a0 own_EL n0 vm T h 0 0 := X
  refine X.aload_n i1_0 rfl rfl ?_
  refine X.initO i1_1 (hw _ w54) (hw _ w12) (hw _ w13) rfl (by decide) (W := 0) rfl (by decide) fun T1 X1 => ?_
  refine X1.aload_n i1_4 rfl rfl ?_
  refine X1.aload_n i1_5 rfl rfl ?_
  refine X1.putfield i1_6 (hw _ w55) Via.refl F_payoutId E_a (Or.inr ⟨(hw _ w56), rfl, rfl⟩) (hw _ w49) (ty := (.object "java/lang/String")) (by decide) rfl rfl g_a (Safe.exa X1.zw.alike E_a (by decide) (by decide)) fun T2 h2 X2 W2 => ?_
  refine X2.aload_n i1_9 rfl rfl ?_
  refine X2.aload_n i1_10 rfl rfl ?_
  have F3 := (F_payout.other W2 (Or.inr (slot_ne (Or.inr (hw _ w58)) (Or.inr (hw _ w56)) (by decide) (t := (.object "com/example/tranche/tranche/Payout")) (t' := (.object "java/lang/String")) (by decide) (by decide))))
  have E4 := (E_a.wr W2)
  refine X2.putfield i1_11 (hw _ w57) Via.refl F3 E4 (Or.inr ⟨(hw _ w58), rfl, rfl⟩) (hw _ w49) (ty := (.object "com/example/tranche/tranche/Payout")) (by decide) rfl rfl g_a (Safe.exa X2.zw.alike E4 (by decide) (by decide)) fun T5 h5 X5 W5 => ?_
  refine X5.aload_n i1_14 rfl rfl ?_
  refine X5.iload_n i1_15 rfl ?_
  have F6 := ((F_tries.other W2 (Or.inr (slot_ne (Or.inr (hw _ w60)) (Or.inr (hw _ w56)) (by decide) (t := .int) (t' := (.object "java/lang/String")) (by decide) (by decide)))).other W5 (Or.inr (slot_ne (Or.inr (hw _ w60)) (Or.inr (hw _ w58)) (by decide) (t := .int) (t' := (.object "com/example/tranche/tranche/Payout")) (by decide) (by decide))))
  have E7 := (E4.wr W5)
  refine X5.putfield i1_16 (hw _ w59) Via.refl F6 E7 (Or.inr ⟨(hw _ w60), rfl, rfl⟩) (hw _ w49) (ty := .int) (by decide) rfl rfl g_a (Safe.exa X5.zw.alike E7 (by decide) (by decide)) fun T8 h8 X8 W8 => ?_
  have F9 := (((F_payoutId.same W2).other W5 (Or.inr (slot_ne (Or.inr (hw _ w56)) (Or.inr (hw _ w58)) (by decide) (t := (.object "java/lang/String")) (t' := (.object "com/example/tranche/tranche/Payout")) (by decide) (by decide)))).other W8 (Or.inr (slot_ne (Or.inr (hw _ w56)) (Or.inr (hw _ w60)) (by decide) (t := (.object "java/lang/String")) (t' := .int) (by decide) (by decide))))
  have F10 := ((F3.same W5).other W8 (Or.inr (slot_ne (Or.inr (hw _ w58)) (Or.inr (hw _ w60)) (by decide) (t := (.object "com/example/tranche/tranche/Payout")) (t' := .int) (by decide) (by decide))))
  exact X8.ret i1_19 rfl (by decide) (by decide) ⟨rfl, ((((Keep.refl _ [a]).wr W2 (Or.inl (List.mem_of_getElem? (i := 0) rfl))).wr W5 (Or.inl (List.mem_of_getElem? (i := 0) rfl))).wr W8 (Or.inl (List.mem_of_getElem? (i := 0) rfl))), F9, F10, (F6.same W8)⟩
set_option maxRecDepth 65536 in
set_option maxHeartbeats 40000000 in
theorem c_next (l : Launch) {Z : State} {a0 : Array Value} {n0 : Nat} (hw : ∀ d ∈ tables_1, d.before a0 Z = true) (hEL : EW Z a0 own_EL) {zc : Int32} (hcs : Sta Z Z.heap "java/lang/String" "COMPACT_STRINGS" "Z" (.int zc)) (hcz : ¬ zc = 0) {h : Heap} (hO : Old Z n0 h) (a : Addr) (i : Addr) (p : Addr) (t : Int32) (F_payoutId : Fld Z h a "com/example/tranche/tranche/Delivery" "payoutId" "Ljava/lang/String;" (.ref i)) (F_payout : Fld Z h a "com/example/tranche/tranche/Delivery" "payout" "Lcom/example/tranche/tranche/Payout;" (.ref p)) (F_tries : Fld Z h a "com/example/tranche/tranche/Delivery" "tries" "I" (.int t)) :
    Con [] true l Z own_EL n0 [] (⟨"com/example/tranche/tranche/Delivery", "next", "()Lcom/example/tranche/tranche/Delivery;"⟩ : MethodName) prog_4_method_5_code 1 (some (.object "com/example/tranche/tranche/Delivery")) ({ frames := 2, cells := 1, slots := 3, locals := 28 } : Room) #[(.ref a)] h (fun v h' => ∃ (r : Addr), v = some (.ref r) ∧ Ext h h' ∧ h.size ≤ r ∧ Exa Z h' r "com/example/tranche/tranche/Delivery" ∧ Fld Z h' r "com/example/tranche/tranche/Delivery" "payoutId" "Ljava/lang/String;" (.ref i) ∧ Fld Z h' r "com/example/tranche/tranche/Delivery" "payout" "Lcom/example/tranche/tranche/Payout;" (.ref p) ∧ Fld Z h' r "com/example/tranche/tranche/Delivery" "tries" "I" (.int (t + (1 : Int32)))) := by
  refine Con.intro (Ls := #[.val (.ref a)]) pn1 hEL hO (fun m => by first | rfl | (simp [entryFrame, mkF, argsToLocals, Value.category]; done)) fun C vm T hl X hs => ?_
  have X : On C ({ frames := 2, cells := 1, slots := 3, locals := 28 } : Room) "com/example/tranche/tranche/Delivery" prog_4_method_5_code 1 (some (.object "com/example/tranche/tranche/Delivery")) "next" true Z a0 own_EL n0 vm T h 0 0 := X
  refine X.new i2_0 (hw _ w66) (hw _ w49) (hw _ w50) (k' := 1) rfl (n' := 3) rfl (by decide) (by decide) fun T1 h1 a1 X1 E1 z1 g1 A1 D1 U1 Sf1 => ?_
  refine X1.dup i2_3 rfl ?_
  refine X1.aload_n i2_4 rfl rfl ?_
  have F2 := (F_payoutId.ext E1)
  refine X1.getfield i2_5 (hw _ w55) Via.refl F2 fun T3 X3 => ?_
  refine X3.aload_n i2_8 rfl rfl ?_
  have F4 := (F_payout.ext E1)
  refine X3.getfield i2_9 (hw _ w57) Via.refl F4 fun T5 X5 => ?_
  refine X5.aload_n i2_12 rfl rfl ?_
  have F6 := (F_tries.ext E1)
  refine X5.getfield i2_13 (hw _ w59) Via.refl F6 fun T7 X7 => ?_
  refine X7.iconst i2_16 (z := (1 : Int32)) rfl ?_
  refine X7.iadd i2_17 (z := (t + (1 : Int32))) rfl ?_
  have F8 : Fld Z h1 a1 "com/example/tranche/tranche/Delivery" "payoutId" "Ljava/lang/String;" .null := D1 (Or.inr (hw _ w56)) (ty := (.object "java/lang/String")) (by decide)
  have F9 : Fld Z h1 a1 "com/example/tranche/tranche/Delivery" "payout" "Lcom/example/tranche/tranche/Payout;" .null := D1 (Or.inr (hw _ w58)) (ty := (.object "com/example/tranche/tranche/Payout")) (by decide)
  have F10 : Fld Z h1 a1 "com/example/tranche/tranche/Delivery" "tries" "I" (.int (0 : Int32)) := D1 (Or.inr (hw _ w60)) (ty := .int) (by decide)
  refine X7.callI hl (argsL := [(.ref i), (.ref p), (.int (t + (1 : Int32)))]) (a := a1) i2_18 (c_del l hw hEL hcs hcz X7.old a1 i p (t + (1 : Int32)) A1 g1 F8 F9 F10) (hw _ w67) (hw _ w52) (hw _ w50) (hw _ w53) rfl (by decide) sf_nil pd0 rfl rfl rfl (W := 1) rfl (by decide) (by decide) (k' := 1) rfl (n' := 3) rfl (by decide) (by decide) fun vm11 T11 h11 v11 X11 r11 Q11 => ?_
  obtain ⟨rfl, q11_0, q11_1, q11_2, q11_3⟩ := Q11
  show Go _ _ _ _ _ _ _ T11 21 #[.val (.ref a)] [(.ref a1)]
  have E12 := (A1.keep q11_0)
  exact X11.areturn i2_21 rfl rfl rfl (by decide) (by decide) ⟨a1, rfl, (ext_keep E1 q11_0 (allS (Nat.le_of_eq z1) all0)), (Nat.le_of_eq z1), E12, q11_1, q11_2, q11_3⟩
set_option maxRecDepth 65536 in
set_option maxHeartbeats 40000000 in
theorem c_payoutId (l : Launch) {Z : State} {a0 : Array Value} {n0 : Nat} (hw : ∀ d ∈ tables_1, d.before a0 Z = true) (hEL : EW Z a0 own_EL) {zc : Int32} (hcs : Sta Z Z.heap "java/lang/String" "COMPACT_STRINGS" "Z" (.int zc)) (hcz : ¬ zc = 0) {h : Heap} (hO : Old Z n0 h) (a : Addr) (x : Addr) (F_x : Fld Z h a "com/example/tranche/tranche/Delivery" "payoutId" "Ljava/lang/String;" (.ref x)) :
    Con [] true l Z own_EL n0 [] (⟨"com/example/tranche/tranche/Delivery", "payoutId", "()Ljava/lang/String;"⟩ : MethodName) prog_4_method_2_code 1 (some (.object "java/lang/String")) ({ frames := 0, cells := 0, slots := 0, locals := 0 } : Room) #[(.ref a)] h (fun v h' => v = some (.ref x) ∧ h = h') := by
  refine Con.intro (Ls := #[.val (.ref a)]) pn1 hEL hO (fun m => by first | rfl | (simp [entryFrame, mkF, argsToLocals, Value.category]; done)) fun C vm T hl X hs => ?_
  have X : On C ({ frames := 0, cells := 0, slots := 0, locals := 0 } : Room) "com/example/tranche/tranche/Delivery" prog_4_method_2_code 1 (some (.object "java/lang/String")) "payoutId" true Z a0 own_EL n0 vm T h 0 0 := X
  refine X.aload_n i3_0 rfl rfl ?_
  refine X.getfield i3_1 (hw _ w55) Via.refl F_x fun T1 X1 => ?_
  exact X1.areturn i3_4 rfl rfl rfl (by decide) (by decide) ⟨rfl, rfl⟩
set_option maxRecDepth 65536 in
set_option maxHeartbeats 40000000 in
theorem c_payout (l : Launch) {Z : State} {a0 : Array Value} {n0 : Nat} (hw : ∀ d ∈ tables_1, d.before a0 Z = true) (hEL : EW Z a0 own_EL) {zc : Int32} (hcs : Sta Z Z.heap "java/lang/String" "COMPACT_STRINGS" "Z" (.int zc)) (hcz : ¬ zc = 0) {h : Heap} (hO : Old Z n0 h) (a : Addr) (x : Addr) (F_x : Fld Z h a "com/example/tranche/tranche/Delivery" "payout" "Lcom/example/tranche/tranche/Payout;" (.ref x)) :
    Con [] true l Z own_EL n0 [] (⟨"com/example/tranche/tranche/Delivery", "payout", "()Lcom/example/tranche/tranche/Payout;"⟩ : MethodName) prog_4_method_3_code 1 (some (.object "com/example/tranche/tranche/Payout")) ({ frames := 0, cells := 0, slots := 0, locals := 0 } : Room) #[(.ref a)] h (fun v h' => v = some (.ref x) ∧ h = h') := by
  refine Con.intro (Ls := #[.val (.ref a)]) pn1 hEL hO (fun m => by first | rfl | (simp [entryFrame, mkF, argsToLocals, Value.category]; done)) fun C vm T hl X hs => ?_
  have X : On C ({ frames := 0, cells := 0, slots := 0, locals := 0 } : Room) "com/example/tranche/tranche/Delivery" prog_4_method_3_code 1 (some (.object "com/example/tranche/tranche/Payout")) "payout" true Z a0 own_EL n0 vm T h 0 0 := X
  refine X.aload_n i4_0 rfl rfl ?_
  refine X.getfield i4_1 (hw _ w57) Via.refl F_x fun T1 X1 => ?_
  exact X1.areturn i4_4 rfl rfl rfl (by decide) (by decide) ⟨rfl, rfl⟩
set_option maxRecDepth 65536 in
set_option maxHeartbeats 40000000 in
theorem c_tries (l : Launch) {Z : State} {a0 : Array Value} {n0 : Nat} (hw : ∀ d ∈ tables_1, d.before a0 Z = true) (hEL : EW Z a0 own_EL) {zc : Int32} (hcs : Sta Z Z.heap "java/lang/String" "COMPACT_STRINGS" "Z" (.int zc)) (hcz : ¬ zc = 0) {h : Heap} (hO : Old Z n0 h) (a : Addr) (x : Int32) (F_x : Fld Z h a "com/example/tranche/tranche/Delivery" "tries" "I" (.int x)) :
    Con [] true l Z own_EL n0 [] (⟨"com/example/tranche/tranche/Delivery", "tries", "()I"⟩ : MethodName) prog_4_method_4_code 1 (some .int) ({ frames := 0, cells := 0, slots := 0, locals := 0 } : Room) #[(.ref a)] h (fun v h' => v = some (.int x) ∧ h = h') := by
  refine Con.intro (Ls := #[.val (.ref a)]) pn1 hEL hO (fun m => by first | rfl | (simp [entryFrame, mkF, argsToLocals, Value.category]; done)) fun C vm T hl X hs => ?_
  have X : On C ({ frames := 0, cells := 0, slots := 0, locals := 0 } : Room) "com/example/tranche/tranche/Delivery" prog_4_method_4_code 1 (some .int) "tries" true Z a0 own_EL n0 vm T h 0 0 := X
  refine X.aload_n i5_0 rfl rfl ?_
  refine X.getfield i5_1 (hw _ w59) Via.refl F_x fun T1 X1 => ?_
  exact X1.ireturn i5_4 (t := .int) rfl (by decide) rfl (by decide) (by decide) ⟨rfl, rfl⟩
theorem ef_law (m : MethodId) (p0 : Int32) (p1 : Int32) (p2 : Int64) (p3 : Int32) (rf : Addr) (gr : Addr) : entryFrame m #[(.int p0), (.int p1), (.long p2), (.int p3)] maxLocals = mkF m 0 #[.val (.int p0), .val (.int p1), .val (.long p2), .second, .val (.int p3), .unset, .unset, .unset, .unset, .unset, .unset, .unset, .unset, .unset, .unset, .unset] [] := by first | (simp [entryFrame, mkF, argsToLocals, Value.category, maxLocals]; done) | rfl
set_option maxRecDepth 65536 in
set_option maxHeartbeats 40000000 in
theorem own_law (l : Launch) {Z : State} {a0 : Array Value} (hw : ∀ d ∈ tables_1, d.before a0 Z = true) (hEL : EW Z a0 own_EL) {zc : Int32} (hcs : Sta Z Z.heap "java/lang/String" "COMPACT_STRINGS" "Z" (.int zc)) (hcz : ¬ zc = 0) (p0 : Int32) (p1 : Int32) (p2 : Int64) (p3 : Int32) (rf : Addr) (gr : Addr) (hrf : Sta Z Z.heap "com/example/tranche/tranche/Payout$Kind" "REFUND" "Lcom/example/tranche/tranche/Payout$Kind;" (.ref rf)) (hgr : Sta Z Z.heap "com/example/tranche/tranche/Payout$Kind" "GRAB" "Lcom/example/tranche/tranche/Payout$Kind;" (.ref gr)) :
    Con tables_1 true l Z own_EL Z.heap.size [] x code maxLocals ret room_1 #[(.int p0), (.int p1), (.long p2), (.int p3)] Z.heap (fun v h' => v = some (.int (1 : Int32))) := by
  have hml : maxLocals = 16 := rfl
  refine Con.intro pn2 hEL (Old.start Z) (fun m => ef_law m p0 p1 p2 p3 rf gr) fun C vm T hl X hs => ?_
  have X : On C room_1 "com/example/tranche/tranche/DeliveryNextPinLaw" code 16 (some .boolean) "law" true Z a0 own_EL Z.heap.size vm T Z.heap 0 0 := X
  refine X.iconst i6_0 (z := (2 : Int32)) rfl ?_
  refine X.newarray i6_1 (ty := .char) rfl (hw _ w0) (by decide) (cap := 2) (by decide) (by decide) (k' := 1) rfl (n' := 2) rfl (by decide) (by decide) fun T1 h1 a1 c1 X1 E1 z1 g1 V1 Sf1 => ?_
  have V1 : Arv Z h1 a1 c1 .char (2 : Int32) [(.int (0 : Int32)), (.int (0 : Int32))] (.int (0 : Int32)) := V1.pad (pad_rep [] (.int (0 : Int32)) 2)
  refine X1.astore i6_3 rfl (Ls' := #[.val (.int p0), .val (.int p1), .val (.long p2), .second, .val (.int p3), .val (.ref a1), .unset, .unset, .unset, .unset, .unset, .unset, .unset, .unset, .unset, .unset]) rfl ?_
  refine X1.aload i6_5 rfl rfl ?_
  refine X1.iconst i6_7 (z := (0 : Int32)) rfl ?_
  refine X1.iload_n i6_8 rfl ?_
  refine X1.sipush i6_9 (z := (255 : Int32)) rfl ?_
  refine X1.iand i6_12 (z := (p0 &&& (255 : Int32))) rfl ?_
  refine X1.i2c i6_13 (z := (p0 &&& (255 : Int32))) (i2c_mask _) ?_
  refine X1.castore i6_14 V1 ⟨by decide, by decide⟩ (i := 0) rfl (Nat.le_of_ble_eq_true rfl) (y := (p0 &&& (255 : Int32))) (i2c_mask _) g1 fun T2 h2 X2 W2 V2 => ?_
  have V2 : Arv Z h2 a1 c1 .char (2 : Int32) [(.int (p0 &&& (255 : Int32))), (.int (0 : Int32))] (.int (0 : Int32)) := V2
  refine X2.aload i6_15 rfl rfl ?_
  refine X2.iconst i6_17 (z := (1 : Int32)) rfl ?_
  refine X2.iload_n i6_18 rfl ?_
  refine X2.bipush i6_19 (z := (8 : Int32)) rfl ?_
  refine X2.iushr i6_21 (z := ((p0.toUInt32 >>> ((8 : Int32) &&& 31).toUInt32).toInt32)) rfl ?_
  refine X2.sipush i6_22 (z := (255 : Int32)) rfl ?_
  refine X2.iand i6_25 (z := (((p0.toUInt32 >>> ((8 : Int32) &&& 31).toUInt32).toInt32) &&& (255 : Int32))) rfl ?_
  refine X2.i2c i6_26 (z := (((p0.toUInt32 >>> ((8 : Int32) &&& 31).toUInt32).toInt32) &&& (255 : Int32))) (i2c_mask _) ?_
  refine X2.castore i6_27 V2 ⟨by decide, by decide⟩ (i := 1) rfl (Nat.le_of_ble_eq_true rfl) (y := (((p0.toUInt32 >>> ((8 : Int32) &&& 31).toUInt32).toInt32) &&& (255 : Int32))) (i2c_mask _) g1 fun T3 h3 X3 W3 V3 => ?_
  have V3 : Arv Z h3 a1 c1 .char (2 : Int32) [(.int (p0 &&& (255 : Int32))), (.int (((p0.toUInt32 >>> ((8 : Int32) &&& 31).toUInt32).toInt32) &&& (255 : Int32)))] (.int (0 : Int32)) := V3
  refine X3.new i6_28 (hw _ w1) (hw _ w2) (hw _ w3) (k' := 2) rfl (n' := 6) rfl (by decide) (by decide) fun T4 h4 a4 X4 E4 z4 g4 A4 D4 U4 Sf4 => ?_
  refine X4.dup i6_31 rfl ?_
  refine X4.aload i6_32 rfl rfl ?_
  have V5 := (V3.ext E4)
  have F7 : Fld Z h4 a4 "java/lang/String" "value" "[B" .null := D4 (Or.inr (hw _ w29)) (ty := (.array .byte)) (by decide)
  have F8 : Fld Z h4 a4 "java/lang/String" "coder" "B" (.int (0 : Int32)) := D4 (Or.inr (hw _ w27)) (ty := .byte) (by decide)
  have hp6 : ∀ c ∈ ([(p0 &&& (255 : Int32)), (((p0.toUInt32 >>> ((8 : Int32) &&& 31).toUInt32).toInt32) &&& (255 : Int32))] : List Int32), ¬ c < 0 ∧ ¬ (255 : Int32) < c := (own_allS (own_and255 _) (own_allS (own_and255 _) own_all0))
  refine own_strInit X4 hw (cs := [(p0 &&& (255 : Int32)), (((p0.toUInt32 >>> ((8 : Int32) &&& 31).toUInt32).toInt32) &&& (255 : Int32))]) (c0 := a1) i6_34 (hw _ w4) g4 A4 F7 F8 V5 rfl (Nat.le_of_ble_eq_true rfl) (Nat.le_of_ble_eq_true rfl) hp6 hcs hcz Sf4 rfl (W := 1) rfl (by decide) (by decide) (k' := 3) rfl (n' := 8) rfl (by decide) (by decide) fun T6 h6 t6 b6 X6 K6 y6 S6 => ?_
  refine X6.astore i6_37 rfl (Ls' := #[.val (.int p0), .val (.int p1), .val (.long p2), .second, .val (.int p3), .val (.ref a1), .val (.ref a4), .unset, .unset, .unset, .unset, .unset, .unset, .unset, .unset, .unset]) rfl ?_
  refine X6.iconst i6_39 (z := (1 : Int32)) rfl ?_
  refine X6.newarray i6_40 (ty := .char) rfl (hw _ w0) (by decide) (cap := 1) (by decide) (by decide) (k' := 4) rfl (n' := 9) rfl (by decide) (by decide) fun T9 h9 a9 c9 X9 E9 z9 g9 V9 Sf9 => ?_
  have V9 : Arv Z h9 a9 c9 .char (1 : Int32) [(.int (0 : Int32))] (.int (0 : Int32)) := V9.pad (pad_rep [] (.int (0 : Int32)) 1)
  refine X9.astore i6_42 rfl (Ls' := #[.val (.int p0), .val (.int p1), .val (.long p2), .second, .val (.int p3), .val (.ref a1), .val (.ref a4), .val (.ref a9), .unset, .unset, .unset, .unset, .unset, .unset, .unset, .unset]) rfl ?_
  refine X9.aload i6_44 rfl rfl ?_
  refine X9.iconst i6_46 (z := (0 : Int32)) rfl ?_
  refine X9.iload_n i6_47 rfl ?_
  refine X9.bipush i6_48 (z := (16 : Int32)) rfl ?_
  refine X9.iushr i6_50 (z := ((p0.toUInt32 >>> ((16 : Int32) &&& 31).toUInt32).toInt32)) rfl ?_
  refine X9.sipush i6_51 (z := (255 : Int32)) rfl ?_
  refine X9.iand i6_54 (z := (((p0.toUInt32 >>> ((16 : Int32) &&& 31).toUInt32).toInt32) &&& (255 : Int32))) rfl ?_
  refine X9.i2c i6_55 (z := (((p0.toUInt32 >>> ((16 : Int32) &&& 31).toUInt32).toInt32) &&& (255 : Int32))) (i2c_mask _) ?_
  refine X9.castore i6_56 V9 ⟨by decide, by decide⟩ (i := 0) rfl (Nat.le_of_ble_eq_true rfl) (y := (((p0.toUInt32 >>> ((16 : Int32) &&& 31).toUInt32).toInt32) &&& (255 : Int32))) (i2c_mask _) g9 fun T10 h10 X10 W10 V10 => ?_
  have V10 : Arv Z h10 a9 c9 .char (1 : Int32) [(.int (((p0.toUInt32 >>> ((16 : Int32) &&& 31).toUInt32).toInt32) &&& (255 : Int32)))] (.int (0 : Int32)) := V10
  refine X10.new i6_57 (hw _ w1) (hw _ w2) (hw _ w3) (k' := 5) rfl (n' := 13) rfl (by decide) (by decide) fun T11 h11 a11 X11 E11 z11 g11 A11 D11 U11 Sf11 => ?_
  refine X11.dup i6_60 rfl ?_
  refine X11.aload i6_61 rfl rfl ?_
  have V12 := (V10.ext E11)
  have F14 : Fld Z h11 a11 "java/lang/String" "value" "[B" .null := D11 (Or.inr (hw _ w29)) (ty := (.array .byte)) (by decide)
  have F15 : Fld Z h11 a11 "java/lang/String" "coder" "B" (.int (0 : Int32)) := D11 (Or.inr (hw _ w27)) (ty := .byte) (by decide)
  have hp13 : ∀ c ∈ ([(((p0.toUInt32 >>> ((16 : Int32) &&& 31).toUInt32).toInt32) &&& (255 : Int32))] : List Int32), ¬ c < 0 ∧ ¬ (255 : Int32) < c := (own_allS (own_and255 _) own_all0)
  refine own_strInit X11 hw (cs := [(((p0.toUInt32 >>> ((16 : Int32) &&& 31).toUInt32).toInt32) &&& (255 : Int32))]) (c0 := a9) i6_63 (hw _ w4) g11 A11 F14 F15 V12 rfl (Nat.le_of_ble_eq_true rfl) (Nat.le_of_ble_eq_true rfl) hp13 hcs hcz Sf11 rfl (W := 1) rfl (by decide) (by decide) (k' := 6) rfl (n' := 14) rfl (by decide) (by decide) fun T13 h13 t13 b13 X13 K13 y13 S13 => ?_
  refine X13.astore i6_66 rfl (Ls' := #[.val (.int p0), .val (.int p1), .val (.long p2), .second, .val (.int p3), .val (.ref a1), .val (.ref a4), .val (.ref a9), .val (.ref a11), .unset, .unset, .unset, .unset, .unset, .unset, .unset]) rfl ?_
  refine X13.iload i6_68 rfl ?_
  refine X13.iconst i6_70 (z := (1 : Int32)) rfl ?_
  refine X13.iand i6_71 (z := (p3 &&& (1 : Int32))) rfl ?_
  by_cases hc : (p3 &&& (1 : Int32)) = 0
  · skip
    refine X13.ifY i6_72 j72_9 (XT.i0_eq_t hc) ?_
    refine X13.getstatic i6_81 (hw _ w30) Via.refl (hrf.ext X13.ext0) fun T16 X16 => ?_
    refine X16.astore i6_84 rfl (Ls' := #[.val (.int p0), .val (.int p1), .val (.long p2), .second, .val (.int p3), .val (.ref a1), .val (.ref a4), .val (.ref a9), .val (.ref a11), .val (.ref rf), .unset, .unset, .unset, .unset, .unset, .unset]) rfl ?_
    refine X16.new i6_86 (hw _ w33) (hw _ w34) (hw _ w35) (k' := 7) rfl (n' := 18) rfl (by decide) (by decide) fun T17 h17 a17 X17 E17 z17 g17 A17 D17 U17 Sf17 => ?_
    refine X17.dup i6_89 rfl ?_
    refine X17.aload i6_90 rfl rfl ?_
    refine X17.aload i6_92 rfl rfl ?_
    refine X17.aload i6_94 rfl rfl ?_
    refine X17.lload_n i6_96 rfl ?_
    have F18 : Fld Z h17 a17 "com/example/tranche/tranche/Payout" "kind" "Lcom/example/tranche/tranche/Payout$Kind;" .null := D17 (Or.inr (hw _ w41)) (ty := (.object "com/example/tranche/tranche/Payout$Kind")) (by decide)
    have F19 : Fld Z h17 a17 "com/example/tranche/tranche/Payout" "packetId" "Ljava/lang/String;" .null := D17 (Or.inr (hw _ w43)) (ty := (.object "java/lang/String")) (by decide)
    have F20 : Fld Z h17 a17 "com/example/tranche/tranche/Payout" "user" "Ljava/lang/String;" .null := D17 (Or.inr (hw _ w45)) (ty := (.object "java/lang/String")) (by decide)
    have F21 : Fld Z h17 a17 "com/example/tranche/tranche/Payout" "amountCents" "J" (.long (0 : Int64)) := D17 (Or.inr (hw _ w47)) (ty := .long) (by decide)
    refine X17.callI hl (argsL := [(.ref rf), (.ref a11), (.ref a11), (.long p2)]) (a := a17) i6_97 (c_pay l hw hEL hcs hcz X17.old a17 rf a11 a11 p2 A17 g17 F18 F19 F20 F21) (hw _ w36) (hw _ w37) (hw _ w35) (hw _ w38) rfl (by decide) sf_nil pd1 rfl rfl rfl (W := 1) rfl (by decide) (by decide) (k' := 7) rfl (n' := 18) rfl (by decide) (by decide) fun vm22 T22 h22 v22 X22 r22 Q22 => ?_
    obtain ⟨rfl, q22_0⟩ := Q22
    show Go _ _ _ _ _ _ _ T22 100 #[.val (.int p0), .val (.int p1), .val (.long p2), .second, .val (.int p3), .val (.ref a1), .val (.ref a4), .val (.ref a9), .val (.ref a11), .val (.ref rf), .unset, .unset, .unset, .unset, .unset, .unset] [(.ref a17)]
    refine X22.astore i6_100 rfl (Ls' := #[.val (.int p0), .val (.int p1), .val (.long p2), .second, .val (.int p3), .val (.ref a1), .val (.ref a4), .val (.ref a9), .val (.ref a11), .val (.ref rf), .val (.ref a17), .unset, .unset, .unset, .unset, .unset]) rfl ?_
    refine X22.new i6_102 (hw _ w48) (hw _ w49) (hw _ w50) (k' := 8) rfl (n' := 21) rfl (by decide) (by decide) fun T23 h23 a23 X23 E23 z23 g23 A23 D23 U23 Sf23 => ?_
    refine X23.dup i6_105 rfl ?_
    refine X23.aload i6_106 rfl rfl ?_
    refine X23.aload i6_108 rfl rfl ?_
    refine X23.iload_n i6_110 rfl ?_
    have F24 : Fld Z h23 a23 "com/example/tranche/tranche/Delivery" "payoutId" "Ljava/lang/String;" .null := D23 (Or.inr (hw _ w56)) (ty := (.object "java/lang/String")) (by decide)
    have F25 : Fld Z h23 a23 "com/example/tranche/tranche/Delivery" "payout" "Lcom/example/tranche/tranche/Payout;" .null := D23 (Or.inr (hw _ w58)) (ty := (.object "com/example/tranche/tranche/Payout")) (by decide)
    have F26 : Fld Z h23 a23 "com/example/tranche/tranche/Delivery" "tries" "I" (.int (0 : Int32)) := D23 (Or.inr (hw _ w60)) (ty := .int) (by decide)
    refine X23.callI hl (argsL := [(.ref a4), (.ref a17), (.int p1)]) (a := a23) i6_111 (c_del l hw hEL hcs hcz X23.old a23 a4 a17 p1 A23 g23 F24 F25 F26) (hw _ w51) (hw _ w52) (hw _ w50) (hw _ w53) rfl (by decide) sf_nil pd0 rfl rfl rfl (W := 1) rfl (by decide) (by decide) (k' := 8) rfl (n' := 21) rfl (by decide) (by decide) fun vm27 T27 h27 v27 X27 r27 Q27 => ?_
    obtain ⟨rfl, q27_0, q27_1, q27_2, q27_3⟩ := Q27
    show Go _ _ _ _ _ _ _ T27 114 #[.val (.int p0), .val (.int p1), .val (.long p2), .second, .val (.int p3), .val (.ref a1), .val (.ref a4), .val (.ref a9), .val (.ref a11), .val (.ref rf), .val (.ref a17), .unset, .unset, .unset, .unset, .unset] [(.ref a23)]
    refine X27.astore i6_114 rfl (Ls' := #[.val (.int p0), .val (.int p1), .val (.long p2), .second, .val (.int p3), .val (.ref a1), .val (.ref a4), .val (.ref a9), .val (.ref a11), .val (.ref rf), .val (.ref a17), .val (.ref a23), .unset, .unset, .unset, .unset]) rfl ?_
    refine X27.aload i6_116 rfl rfl ?_
    have E29 := (A23.keep q27_0)
    refine X27.callV hl (argsL := []) (a := a23) i6_118 (c_next l hw hEL hcs hcz X27.old a23 a4 a17 p1 q27_1 q27_2 q27_3) E29 (hw _ w61) (hw _ w62) (hw _ w64) (nfSel X27.zw (hw _ w64)) (hw _ w63) (hw _ w50) (hw _ w65) (by decide) sf_nil pd2 rfl rfl rfl (W := 0) rfl (by decide) (by decide) (k' := 9) rfl (n' := 24) rfl (by decide) (by decide) fun vm28 T28 h28 v28 X28 r28 Q28 => ?_
    obtain ⟨r_28, rfl, q28_0, q28_1, q28_2, q28_3, q28_4, q28_5⟩ := Q28
    have g30 := Nat.le_trans X27.n0le q28_1
    show Go _ _ _ _ _ _ _ T28 121 #[.val (.int p0), .val (.int p1), .val (.long p2), .second, .val (.int p3), .val (.ref a1), .val (.ref a4), .val (.ref a9), .val (.ref a11), .val (.ref rf), .val (.ref a17), .val (.ref a23), .unset, .unset, .unset, .unset] [(.ref r_28)]
    refine X28.astore i6_121 rfl (Ls' := #[.val (.int p0), .val (.int p1), .val (.long p2), .second, .val (.int p3), .val (.ref a1), .val (.ref a4), .val (.ref a9), .val (.ref a11), .val (.ref rf), .val (.ref a17), .val (.ref a23), .val (.ref r_28), .unset, .unset, .unset]) rfl ?_
    refine X28.iload_n i6_123 rfl ?_
    refine X28.iconst i6_124 (z := (1 : Int32)) rfl ?_
    refine X28.iadd i6_125 (z := (p1 + (1 : Int32))) rfl ?_
    refine X28.istore i6_126 (Ls' := #[.val (.int p0), .val (.int p1), .val (.long p2), .second, .val (.int p3), .val (.ref a1), .val (.ref a4), .val (.ref a9), .val (.ref a11), .val (.ref rf), .val (.ref a17), .val (.ref a23), .val (.ref r_28), .val (.int (p1 + (1 : Int32))), .unset, .unset]) rfl ?_
    refine X28.aload i6_128 rfl rfl ?_
    refine X28.nullN i6_130 ?_
    refine X28.aload i6_133 rfl rfl ?_
    refine X28.aload i6_135 rfl rfl ?_
    refine X28.acY i6_137 j137_5 rfl rfl (XT.aa_ne_t (fun z => (Nat.ne_of_gt (Nat.lt_of_lt_of_le (E29).lt q28_1)) (Value.ref.inj z))) ?_
    refine X28.aload i6_142 rfl rfl ?_
    refine X28.callV hl (argsL := []) (a := r_28) i6_144 (c_payoutId l hw hEL hcs hcz X28.old r_28 a4 q28_3) q28_2 (hw _ w68) (hw _ w69) (hw _ w71) (nfSel X28.zw (hw _ w71)) (hw _ w70) (hw _ w50) (hw _ w72) (by decide) sf_nil pd3 rfl rfl rfl (W := 0) rfl (by decide) (by decide) (k' := 9) rfl (n' := 24) rfl (by decide) (by decide) fun vm31 T31 h31 v31 X31 r31 Q31 => ?_
    obtain ⟨rfl, rfl⟩ := Q31
    show Go _ _ _ _ _ _ _ T31 147 #[.val (.int p0), .val (.int p1), .val (.long p2), .second, .val (.int p3), .val (.ref a1), .val (.ref a4), .val (.ref a9), .val (.ref a11), .val (.ref rf), .val (.ref a17), .val (.ref a23), .val (.ref r_28), .val (.int (p1 + (1 : Int32))), .unset, .unset] [(.ref a4)]
    refine X31.aload i6_147 rfl rfl ?_
    refine X31.acN i6_149 rfl rfl (XT.aa_ne_f rfl) ?_
    refine X31.aload i6_152 rfl rfl ?_
    refine X31.callV hl (argsL := []) (a := r_28) i6_154 (c_payout l hw hEL hcs hcz X31.old r_28 a17 q28_4) q28_2 (hw _ w73) (hw _ w74) (hw _ w76) (nfSel X31.zw (hw _ w76)) (hw _ w75) (hw _ w50) (hw _ w77) (by decide) sf_nil pd4 rfl rfl rfl (W := 0) rfl (by decide) (by decide) (k' := 9) rfl (n' := 24) rfl (by decide) (by decide) fun vm32 T32 h32 v32 X32 r32 Q32 => ?_
    obtain ⟨rfl, rfl⟩ := Q32
    show Go _ _ _ _ _ _ _ T32 157 #[.val (.int p0), .val (.int p1), .val (.long p2), .second, .val (.int p3), .val (.ref a1), .val (.ref a4), .val (.ref a9), .val (.ref a11), .val (.ref rf), .val (.ref a17), .val (.ref a23), .val (.ref r_28), .val (.int (p1 + (1 : Int32))), .unset, .unset] [(.ref a17)]
    refine X32.aload i6_157 rfl rfl ?_
    refine X32.acN i6_159 rfl rfl (XT.aa_ne_f rfl) ?_
    refine X32.aload i6_162 rfl rfl ?_
    refine X32.callV hl (argsL := []) (a := r_28) i6_164 (c_tries l hw hEL hcs hcz X32.old r_28 (p1 + (1 : Int32)) q28_5) q28_2 (hw _ w78) (hw _ w79) (hw _ w81) (nfSel X32.zw (hw _ w81)) (hw _ w80) (hw _ w50) (hw _ w82) (by decide) sf_nil pd5 rfl rfl rfl (W := 0) rfl (by decide) (by decide) (k' := 9) rfl (n' := 24) rfl (by decide) (by decide) fun vm33 T33 h33 v33 X33 r33 Q33 => ?_
    obtain ⟨rfl, rfl⟩ := Q33
    show Go _ _ _ _ _ _ _ T33 167 #[.val (.int p0), .val (.int p1), .val (.long p2), .second, .val (.int p3), .val (.ref a1), .val (.ref a4), .val (.ref a9), .val (.ref a11), .val (.ref rf), .val (.ref a17), .val (.ref a23), .val (.ref r_28), .val (.int (p1 + (1 : Int32))), .unset, .unset] [(.int (p1 + (1 : Int32)))]
    refine X33.iload i6_167 rfl ?_
    refine X33.icN i6_169 (teq rfl).2 ?_
    refine X33.iconst i6_172 (z := (1 : Int32)) rfl ?_
    refine X33.goto i6_173 j173_4 ?_
    refine X33.istore i6_177 (Ls' := #[.val (.int p0), .val (.int p1), .val (.long p2), .second, .val (.int p3), .val (.ref a1), .val (.ref a4), .val (.ref a9), .val (.ref a11), .val (.ref rf), .val (.ref a17), .val (.ref a23), .val (.ref r_28), .val (.int (p1 + (1 : Int32))), .val (.int (1 : Int32)), .unset]) rfl ?_
    refine X33.aload i6_179 rfl rfl ?_
    have F34 := (q27_1.ext q28_0)
    have E36 := (E29.ext q28_0)
    refine X33.callV hl (argsL := []) (a := a23) i6_181 (c_payoutId l hw hEL hcs hcz X33.old a23 a4 F34) E36 (hw _ w68) (hw _ w69) (hw _ w71) (nfSel X33.zw (hw _ w71)) (hw _ w70) (hw _ w50) (hw _ w72) (by decide) sf_nil pd3 rfl rfl rfl (W := 0) rfl (by decide) (by decide) (k' := 9) rfl (n' := 24) rfl (by decide) (by decide) fun vm35 T35 h35 v35 X35 r35 Q35 => ?_
    obtain ⟨rfl, rfl⟩ := Q35
    show Go _ _ _ _ _ _ _ T35 184 #[.val (.int p0), .val (.int p1), .val (.long p2), .second, .val (.int p3), .val (.ref a1), .val (.ref a4), .val (.ref a9), .val (.ref a11), .val (.ref rf), .val (.ref a17), .val (.ref a23), .val (.ref r_28), .val (.int (p1 + (1 : Int32))), .val (.int (1 : Int32)), .unset] [(.ref a4)]
    refine X35.aload i6_184 rfl rfl ?_
    refine X35.acN i6_186 rfl rfl (XT.aa_ne_f rfl) ?_
    refine X35.aload i6_189 rfl rfl ?_
    have F37 := (q27_2.ext q28_0)
    refine X35.callV hl (argsL := []) (a := a23) i6_191 (c_payout l hw hEL hcs hcz X35.old a23 a17 F37) E36 (hw _ w73) (hw _ w74) (hw _ w76) (nfSel X35.zw (hw _ w76)) (hw _ w75) (hw _ w50) (hw _ w77) (by decide) sf_nil pd4 rfl rfl rfl (W := 0) rfl (by decide) (by decide) (k' := 9) rfl (n' := 24) rfl (by decide) (by decide) fun vm38 T38 h38 v38 X38 r38 Q38 => ?_
    obtain ⟨rfl, rfl⟩ := Q38
    show Go _ _ _ _ _ _ _ T38 194 #[.val (.int p0), .val (.int p1), .val (.long p2), .second, .val (.int p3), .val (.ref a1), .val (.ref a4), .val (.ref a9), .val (.ref a11), .val (.ref rf), .val (.ref a17), .val (.ref a23), .val (.ref r_28), .val (.int (p1 + (1 : Int32))), .val (.int (1 : Int32)), .unset] [(.ref a17)]
    refine X38.aload i6_194 rfl rfl ?_
    refine X38.acN i6_196 rfl rfl (XT.aa_ne_f rfl) ?_
    refine X38.aload i6_199 rfl rfl ?_
    have F39 := (q27_3.ext q28_0)
    refine X38.callV hl (argsL := []) (a := a23) i6_201 (c_tries l hw hEL hcs hcz X38.old a23 p1 F39) E36 (hw _ w78) (hw _ w79) (hw _ w81) (nfSel X38.zw (hw _ w81)) (hw _ w80) (hw _ w50) (hw _ w82) (by decide) sf_nil pd5 rfl rfl rfl (W := 0) rfl (by decide) (by decide) (k' := 9) rfl (n' := 24) rfl (by decide) (by decide) fun vm40 T40 h40 v40 X40 r40 Q40 => ?_
    obtain ⟨rfl, rfl⟩ := Q40
    show Go _ _ _ _ _ _ _ T40 204 #[.val (.int p0), .val (.int p1), .val (.long p2), .second, .val (.int p3), .val (.ref a1), .val (.ref a4), .val (.ref a9), .val (.ref a11), .val (.ref rf), .val (.ref a17), .val (.ref a23), .val (.ref r_28), .val (.int (p1 + (1 : Int32))), .val (.int (1 : Int32)), .unset] [(.int p1)]
    refine X40.iload_n i6_204 rfl ?_
    refine X40.icN i6_205 (teq rfl).2 ?_
    refine X40.iconst i6_208 (z := (1 : Int32)) rfl ?_
    refine X40.goto i6_209 j209_4 ?_
    refine X40.istore i6_213 (Ls' := #[.val (.int p0), .val (.int p1), .val (.long p2), .second, .val (.int p3), .val (.ref a1), .val (.ref a4), .val (.ref a9), .val (.ref a11), .val (.ref rf), .val (.ref a17), .val (.ref a23), .val (.ref r_28), .val (.int (p1 + (1 : Int32))), .val (.int (1 : Int32)), .val (.int (1 : Int32))]) rfl ?_
    refine X40.iload i6_215 rfl ?_
    refine X40.ifN i6_217 (by decide) ?_
    refine X40.iload i6_220 rfl ?_
    refine X40.ifN i6_222 (by decide) ?_
    refine X40.iconst i6_225 (z := (1 : Int32)) rfl ?_
    refine X40.goto i6_226 j226_4 ?_
    exact X40.ireturn i6_230 (t := .boolean) rfl (by decide) rfl (by decide) (by decide) rfl
  · skip
    refine X13.ifN i6_72 (XT.i0_eq_f hc) ?_
    refine X13.getstatic i6_75 (hw _ w83) Via.refl (hgr.ext X13.ext0) fun T41 X41 => ?_
    refine X41.goto i6_78 j78_6 ?_
    refine X41.astore i6_84 rfl (Ls' := #[.val (.int p0), .val (.int p1), .val (.long p2), .second, .val (.int p3), .val (.ref a1), .val (.ref a4), .val (.ref a9), .val (.ref a11), .val (.ref gr), .unset, .unset, .unset, .unset, .unset, .unset]) rfl ?_
    refine X41.new i6_86 (hw _ w33) (hw _ w34) (hw _ w35) (k' := 7) rfl (n' := 18) rfl (by decide) (by decide) fun T42 h42 a42 X42 E42 z42 g42 A42 D42 U42 Sf42 => ?_
    refine X42.dup i6_89 rfl ?_
    refine X42.aload i6_90 rfl rfl ?_
    refine X42.aload i6_92 rfl rfl ?_
    refine X42.aload i6_94 rfl rfl ?_
    refine X42.lload_n i6_96 rfl ?_
    have F43 : Fld Z h42 a42 "com/example/tranche/tranche/Payout" "kind" "Lcom/example/tranche/tranche/Payout$Kind;" .null := D42 (Or.inr (hw _ w41)) (ty := (.object "com/example/tranche/tranche/Payout$Kind")) (by decide)
    have F44 : Fld Z h42 a42 "com/example/tranche/tranche/Payout" "packetId" "Ljava/lang/String;" .null := D42 (Or.inr (hw _ w43)) (ty := (.object "java/lang/String")) (by decide)
    have F45 : Fld Z h42 a42 "com/example/tranche/tranche/Payout" "user" "Ljava/lang/String;" .null := D42 (Or.inr (hw _ w45)) (ty := (.object "java/lang/String")) (by decide)
    have F46 : Fld Z h42 a42 "com/example/tranche/tranche/Payout" "amountCents" "J" (.long (0 : Int64)) := D42 (Or.inr (hw _ w47)) (ty := .long) (by decide)
    refine X42.callI hl (argsL := [(.ref gr), (.ref a11), (.ref a11), (.long p2)]) (a := a42) i6_97 (c_pay l hw hEL hcs hcz X42.old a42 gr a11 a11 p2 A42 g42 F43 F44 F45 F46) (hw _ w36) (hw _ w37) (hw _ w35) (hw _ w38) rfl (by decide) sf_nil pd1 rfl rfl rfl (W := 1) rfl (by decide) (by decide) (k' := 7) rfl (n' := 18) rfl (by decide) (by decide) fun vm47 T47 h47 v47 X47 r47 Q47 => ?_
    obtain ⟨rfl, q47_0⟩ := Q47
    show Go _ _ _ _ _ _ _ T47 100 #[.val (.int p0), .val (.int p1), .val (.long p2), .second, .val (.int p3), .val (.ref a1), .val (.ref a4), .val (.ref a9), .val (.ref a11), .val (.ref gr), .unset, .unset, .unset, .unset, .unset, .unset] [(.ref a42)]
    refine X47.astore i6_100 rfl (Ls' := #[.val (.int p0), .val (.int p1), .val (.long p2), .second, .val (.int p3), .val (.ref a1), .val (.ref a4), .val (.ref a9), .val (.ref a11), .val (.ref gr), .val (.ref a42), .unset, .unset, .unset, .unset, .unset]) rfl ?_
    refine X47.new i6_102 (hw _ w48) (hw _ w49) (hw _ w50) (k' := 8) rfl (n' := 21) rfl (by decide) (by decide) fun T48 h48 a48 X48 E48 z48 g48 A48 D48 U48 Sf48 => ?_
    refine X48.dup i6_105 rfl ?_
    refine X48.aload i6_106 rfl rfl ?_
    refine X48.aload i6_108 rfl rfl ?_
    refine X48.iload_n i6_110 rfl ?_
    have F49 : Fld Z h48 a48 "com/example/tranche/tranche/Delivery" "payoutId" "Ljava/lang/String;" .null := D48 (Or.inr (hw _ w56)) (ty := (.object "java/lang/String")) (by decide)
    have F50 : Fld Z h48 a48 "com/example/tranche/tranche/Delivery" "payout" "Lcom/example/tranche/tranche/Payout;" .null := D48 (Or.inr (hw _ w58)) (ty := (.object "com/example/tranche/tranche/Payout")) (by decide)
    have F51 : Fld Z h48 a48 "com/example/tranche/tranche/Delivery" "tries" "I" (.int (0 : Int32)) := D48 (Or.inr (hw _ w60)) (ty := .int) (by decide)
    refine X48.callI hl (argsL := [(.ref a4), (.ref a42), (.int p1)]) (a := a48) i6_111 (c_del l hw hEL hcs hcz X48.old a48 a4 a42 p1 A48 g48 F49 F50 F51) (hw _ w51) (hw _ w52) (hw _ w50) (hw _ w53) rfl (by decide) sf_nil pd0 rfl rfl rfl (W := 1) rfl (by decide) (by decide) (k' := 8) rfl (n' := 21) rfl (by decide) (by decide) fun vm52 T52 h52 v52 X52 r52 Q52 => ?_
    obtain ⟨rfl, q52_0, q52_1, q52_2, q52_3⟩ := Q52
    show Go _ _ _ _ _ _ _ T52 114 #[.val (.int p0), .val (.int p1), .val (.long p2), .second, .val (.int p3), .val (.ref a1), .val (.ref a4), .val (.ref a9), .val (.ref a11), .val (.ref gr), .val (.ref a42), .unset, .unset, .unset, .unset, .unset] [(.ref a48)]
    refine X52.astore i6_114 rfl (Ls' := #[.val (.int p0), .val (.int p1), .val (.long p2), .second, .val (.int p3), .val (.ref a1), .val (.ref a4), .val (.ref a9), .val (.ref a11), .val (.ref gr), .val (.ref a42), .val (.ref a48), .unset, .unset, .unset, .unset]) rfl ?_
    refine X52.aload i6_116 rfl rfl ?_
    have E54 := (A48.keep q52_0)
    refine X52.callV hl (argsL := []) (a := a48) i6_118 (c_next l hw hEL hcs hcz X52.old a48 a4 a42 p1 q52_1 q52_2 q52_3) E54 (hw _ w61) (hw _ w62) (hw _ w64) (nfSel X52.zw (hw _ w64)) (hw _ w63) (hw _ w50) (hw _ w65) (by decide) sf_nil pd2 rfl rfl rfl (W := 0) rfl (by decide) (by decide) (k' := 9) rfl (n' := 24) rfl (by decide) (by decide) fun vm53 T53 h53 v53 X53 r53 Q53 => ?_
    obtain ⟨r_53, rfl, q53_0, q53_1, q53_2, q53_3, q53_4, q53_5⟩ := Q53
    have g55 := Nat.le_trans X52.n0le q53_1
    show Go _ _ _ _ _ _ _ T53 121 #[.val (.int p0), .val (.int p1), .val (.long p2), .second, .val (.int p3), .val (.ref a1), .val (.ref a4), .val (.ref a9), .val (.ref a11), .val (.ref gr), .val (.ref a42), .val (.ref a48), .unset, .unset, .unset, .unset] [(.ref r_53)]
    refine X53.astore i6_121 rfl (Ls' := #[.val (.int p0), .val (.int p1), .val (.long p2), .second, .val (.int p3), .val (.ref a1), .val (.ref a4), .val (.ref a9), .val (.ref a11), .val (.ref gr), .val (.ref a42), .val (.ref a48), .val (.ref r_53), .unset, .unset, .unset]) rfl ?_
    refine X53.iload_n i6_123 rfl ?_
    refine X53.iconst i6_124 (z := (1 : Int32)) rfl ?_
    refine X53.iadd i6_125 (z := (p1 + (1 : Int32))) rfl ?_
    refine X53.istore i6_126 (Ls' := #[.val (.int p0), .val (.int p1), .val (.long p2), .second, .val (.int p3), .val (.ref a1), .val (.ref a4), .val (.ref a9), .val (.ref a11), .val (.ref gr), .val (.ref a42), .val (.ref a48), .val (.ref r_53), .val (.int (p1 + (1 : Int32))), .unset, .unset]) rfl ?_
    refine X53.aload i6_128 rfl rfl ?_
    refine X53.nullN i6_130 ?_
    refine X53.aload i6_133 rfl rfl ?_
    refine X53.aload i6_135 rfl rfl ?_
    refine X53.acY i6_137 j137_5 rfl rfl (XT.aa_ne_t (fun z => (Nat.ne_of_gt (Nat.lt_of_lt_of_le (E54).lt q53_1)) (Value.ref.inj z))) ?_
    refine X53.aload i6_142 rfl rfl ?_
    refine X53.callV hl (argsL := []) (a := r_53) i6_144 (c_payoutId l hw hEL hcs hcz X53.old r_53 a4 q53_3) q53_2 (hw _ w68) (hw _ w69) (hw _ w71) (nfSel X53.zw (hw _ w71)) (hw _ w70) (hw _ w50) (hw _ w72) (by decide) sf_nil pd3 rfl rfl rfl (W := 0) rfl (by decide) (by decide) (k' := 9) rfl (n' := 24) rfl (by decide) (by decide) fun vm56 T56 h56 v56 X56 r56 Q56 => ?_
    obtain ⟨rfl, rfl⟩ := Q56
    show Go _ _ _ _ _ _ _ T56 147 #[.val (.int p0), .val (.int p1), .val (.long p2), .second, .val (.int p3), .val (.ref a1), .val (.ref a4), .val (.ref a9), .val (.ref a11), .val (.ref gr), .val (.ref a42), .val (.ref a48), .val (.ref r_53), .val (.int (p1 + (1 : Int32))), .unset, .unset] [(.ref a4)]
    refine X56.aload i6_147 rfl rfl ?_
    refine X56.acN i6_149 rfl rfl (XT.aa_ne_f rfl) ?_
    refine X56.aload i6_152 rfl rfl ?_
    refine X56.callV hl (argsL := []) (a := r_53) i6_154 (c_payout l hw hEL hcs hcz X56.old r_53 a42 q53_4) q53_2 (hw _ w73) (hw _ w74) (hw _ w76) (nfSel X56.zw (hw _ w76)) (hw _ w75) (hw _ w50) (hw _ w77) (by decide) sf_nil pd4 rfl rfl rfl (W := 0) rfl (by decide) (by decide) (k' := 9) rfl (n' := 24) rfl (by decide) (by decide) fun vm57 T57 h57 v57 X57 r57 Q57 => ?_
    obtain ⟨rfl, rfl⟩ := Q57
    show Go _ _ _ _ _ _ _ T57 157 #[.val (.int p0), .val (.int p1), .val (.long p2), .second, .val (.int p3), .val (.ref a1), .val (.ref a4), .val (.ref a9), .val (.ref a11), .val (.ref gr), .val (.ref a42), .val (.ref a48), .val (.ref r_53), .val (.int (p1 + (1 : Int32))), .unset, .unset] [(.ref a42)]
    refine X57.aload i6_157 rfl rfl ?_
    refine X57.acN i6_159 rfl rfl (XT.aa_ne_f rfl) ?_
    refine X57.aload i6_162 rfl rfl ?_
    refine X57.callV hl (argsL := []) (a := r_53) i6_164 (c_tries l hw hEL hcs hcz X57.old r_53 (p1 + (1 : Int32)) q53_5) q53_2 (hw _ w78) (hw _ w79) (hw _ w81) (nfSel X57.zw (hw _ w81)) (hw _ w80) (hw _ w50) (hw _ w82) (by decide) sf_nil pd5 rfl rfl rfl (W := 0) rfl (by decide) (by decide) (k' := 9) rfl (n' := 24) rfl (by decide) (by decide) fun vm58 T58 h58 v58 X58 r58 Q58 => ?_
    obtain ⟨rfl, rfl⟩ := Q58
    show Go _ _ _ _ _ _ _ T58 167 #[.val (.int p0), .val (.int p1), .val (.long p2), .second, .val (.int p3), .val (.ref a1), .val (.ref a4), .val (.ref a9), .val (.ref a11), .val (.ref gr), .val (.ref a42), .val (.ref a48), .val (.ref r_53), .val (.int (p1 + (1 : Int32))), .unset, .unset] [(.int (p1 + (1 : Int32)))]
    refine X58.iload i6_167 rfl ?_
    refine X58.icN i6_169 (teq rfl).2 ?_
    refine X58.iconst i6_172 (z := (1 : Int32)) rfl ?_
    refine X58.goto i6_173 j173_4 ?_
    refine X58.istore i6_177 (Ls' := #[.val (.int p0), .val (.int p1), .val (.long p2), .second, .val (.int p3), .val (.ref a1), .val (.ref a4), .val (.ref a9), .val (.ref a11), .val (.ref gr), .val (.ref a42), .val (.ref a48), .val (.ref r_53), .val (.int (p1 + (1 : Int32))), .val (.int (1 : Int32)), .unset]) rfl ?_
    refine X58.aload i6_179 rfl rfl ?_
    have F59 := (q52_1.ext q53_0)
    have E61 := (E54.ext q53_0)
    refine X58.callV hl (argsL := []) (a := a48) i6_181 (c_payoutId l hw hEL hcs hcz X58.old a48 a4 F59) E61 (hw _ w68) (hw _ w69) (hw _ w71) (nfSel X58.zw (hw _ w71)) (hw _ w70) (hw _ w50) (hw _ w72) (by decide) sf_nil pd3 rfl rfl rfl (W := 0) rfl (by decide) (by decide) (k' := 9) rfl (n' := 24) rfl (by decide) (by decide) fun vm60 T60 h60 v60 X60 r60 Q60 => ?_
    obtain ⟨rfl, rfl⟩ := Q60
    show Go _ _ _ _ _ _ _ T60 184 #[.val (.int p0), .val (.int p1), .val (.long p2), .second, .val (.int p3), .val (.ref a1), .val (.ref a4), .val (.ref a9), .val (.ref a11), .val (.ref gr), .val (.ref a42), .val (.ref a48), .val (.ref r_53), .val (.int (p1 + (1 : Int32))), .val (.int (1 : Int32)), .unset] [(.ref a4)]
    refine X60.aload i6_184 rfl rfl ?_
    refine X60.acN i6_186 rfl rfl (XT.aa_ne_f rfl) ?_
    refine X60.aload i6_189 rfl rfl ?_
    have F62 := (q52_2.ext q53_0)
    refine X60.callV hl (argsL := []) (a := a48) i6_191 (c_payout l hw hEL hcs hcz X60.old a48 a42 F62) E61 (hw _ w73) (hw _ w74) (hw _ w76) (nfSel X60.zw (hw _ w76)) (hw _ w75) (hw _ w50) (hw _ w77) (by decide) sf_nil pd4 rfl rfl rfl (W := 0) rfl (by decide) (by decide) (k' := 9) rfl (n' := 24) rfl (by decide) (by decide) fun vm63 T63 h63 v63 X63 r63 Q63 => ?_
    obtain ⟨rfl, rfl⟩ := Q63
    show Go _ _ _ _ _ _ _ T63 194 #[.val (.int p0), .val (.int p1), .val (.long p2), .second, .val (.int p3), .val (.ref a1), .val (.ref a4), .val (.ref a9), .val (.ref a11), .val (.ref gr), .val (.ref a42), .val (.ref a48), .val (.ref r_53), .val (.int (p1 + (1 : Int32))), .val (.int (1 : Int32)), .unset] [(.ref a42)]
    refine X63.aload i6_194 rfl rfl ?_
    refine X63.acN i6_196 rfl rfl (XT.aa_ne_f rfl) ?_
    refine X63.aload i6_199 rfl rfl ?_
    have F64 := (q52_3.ext q53_0)
    refine X63.callV hl (argsL := []) (a := a48) i6_201 (c_tries l hw hEL hcs hcz X63.old a48 p1 F64) E61 (hw _ w78) (hw _ w79) (hw _ w81) (nfSel X63.zw (hw _ w81)) (hw _ w80) (hw _ w50) (hw _ w82) (by decide) sf_nil pd5 rfl rfl rfl (W := 0) rfl (by decide) (by decide) (k' := 9) rfl (n' := 24) rfl (by decide) (by decide) fun vm65 T65 h65 v65 X65 r65 Q65 => ?_
    obtain ⟨rfl, rfl⟩ := Q65
    show Go _ _ _ _ _ _ _ T65 204 #[.val (.int p0), .val (.int p1), .val (.long p2), .second, .val (.int p3), .val (.ref a1), .val (.ref a4), .val (.ref a9), .val (.ref a11), .val (.ref gr), .val (.ref a42), .val (.ref a48), .val (.ref r_53), .val (.int (p1 + (1 : Int32))), .val (.int (1 : Int32)), .unset] [(.int p1)]
    refine X65.iload_n i6_204 rfl ?_
    refine X65.icN i6_205 (teq rfl).2 ?_
    refine X65.iconst i6_208 (z := (1 : Int32)) rfl ?_
    refine X65.goto i6_209 j209_4 ?_
    refine X65.istore i6_213 (Ls' := #[.val (.int p0), .val (.int p1), .val (.long p2), .second, .val (.int p3), .val (.ref a1), .val (.ref a4), .val (.ref a9), .val (.ref a11), .val (.ref gr), .val (.ref a42), .val (.ref a48), .val (.ref r_53), .val (.int (p1 + (1 : Int32))), .val (.int (1 : Int32)), .val (.int (1 : Int32))]) rfl ?_
    refine X65.iload i6_215 rfl ?_
    refine X65.ifN i6_217 (by decide) ?_
    refine X65.iload i6_220 rfl ?_
    refine X65.ifN i6_222 (by decide) ?_
    refine X65.iconst i6_225 (z := (1 : Int32)) rfl ?_
    refine X65.goto i6_226 j226_4 ?_
    exact X65.ireturn i6_230 (t := .boolean) rfl (by decide) rfl (by decide) (by decide) rfl
set_option maxRecDepth 65536 in
set_option maxHeartbeats 40000000 in
theorem comes_1 {Post : Tables → Env → Array Value → State → Outcome → State → Prop} (hpost : ∀ tb e args s v u, (limb_1_1.after args s (.returned v) u = true ∧ limb_1_2.after args s (.returned v) u = true ∧ True) → FrameEnd s (.returned v) u (Jvm.fieldLocs frame_1_writes args s ++ Jvm.arrayLocs frame_1_arrays args s ++ Jvm.staticLocs frame_1_statics s) 32 128 → Post tb e args s (.returned v) u) :
    ArmFor flags0 classFile x code maxLocals ret World_1 tables_1 room_1 Calls_1 rest_1 Pre_1 Post := by
  intro l hfl _ _ p e ha hc hk s m args below hf hA hF happ hP
  obtain ⟨hcalls, hrest, hpre⟩ := hP
  obtain ⟨-, -, -, hnamed, -, -, -, hat⟩ := (Spec.applies_iff hf).mp happ
  obtain ⟨hg, hn⟩ := and_e (Cond.before_iff.mp (show (Jvm.Cond.and given_1 narrow_1).before args s = true from hpre))
  obtain ⟨hcnt, hg⟩ := and_e hg
  obtain ⟨ha0, hg⟩ := and_e hg
  obtain ⟨ha1, hg⟩ := and_e hg
  obtain ⟨ha2, hg⟩ := and_e hg
  obtain ⟨w0, w1, w2, w3, rfl⟩ : ∃ w0 w1 w2 w3 : Value, args = #[w0, w1, w2, w3] := by
    have hs : args.size = 4 := by simpa [Cond.value, given_1] using hcnt
    obtain ⟨L⟩ := args
    match L, hs with
    | [w0, w1, w2, w3], _ => exact ⟨w0, w1, w2, w3, rfl⟩
  have hw := fun d (hd : d ∈ tables_1) => atoms_spec (ws := Jvm.Cond.code x code maxLocals ret :: tables_1) hat d (List.mem_cons_of_mem _ hd)
  obtain ⟨hsets, hown0⟩ := atoms_of _ (rest_1_c_eq ▸ (show rest_1_c.before _ s = true from hrest))
  have hfit : Fit s := fun {y c} hc i hi => by
    obtain ⟨ha, rfl⟩ := Array.getElem?_eq_some_iff.mp hc
    have q := List.all_eq_true.mp ((Array.all_eq_true_iff_forall_mem.mp hF) _ (Array.getElem_mem ha)) i (List.mem_range.mpr hi)
    simpa [Array.getElem?_eq_getElem hi] using q
  obtain ⟨p0, e0⟩ := is_v ha0
  obtain rfl : w0 = (.int p0) := Option.some.inj e0
  obtain ⟨p1, e1⟩ := is_v ha1
  obtain rfl : w1 = (.int p1) := Option.some.inj e1
  obtain ⟨p2, e2⟩ := isL_v ha2
  obtain rfl : w2 = (.long p2) := Option.some.inj e2
  obtain ⟨p3, e3⟩ := is_v hg
  obtain rfl : w3 = (.int p3) := Option.some.inj e3
  have n5 := not_v (Cond.before_iff.mp (hsets _ (List.mem_of_getElem? (i := 2) rfl)))
  obtain ⟨zc, ec⟩ := is_v (Cond.before_iff.mp (hsets _ (List.mem_of_getElem? (i := 1) rfl)))
  have hcs : Sta s s.heap "java/lang/String" "COMPACT_STRINGS" "Z" (.int zc) := Sta.start ec (Or.inl (hsets _ (List.mem_of_getElem? (i := 0) rfl)))
  have hcz : ¬ (zc = (0 : Int32)) := gotF (Cond.eq_ints ec (Term.int_eval (0))) n5
  obtain ⟨hn1, hn2⟩ := and_e hn
  obtain ⟨rf, erf⟩ := exa_v hn1
  obtain ⟨gr, egr⟩ := exa_v hn2
  have hrf : Sta s s.heap "com/example/tranche/tranche/Payout$Kind" "REFUND" "Lcom/example/tranche/tranche/Payout$Kind;" (.ref rf) := Sta.start erf (Or.inr ⟨(hw _ w31), (hw _ w32)⟩)
  have hgr : Sta s s.heap "com/example/tranche/tranche/Payout$Kind" "GRAB" "Lcom/example/tranche/tranche/Payout$Kind;" (.ref gr) := Sta.start egr (Or.inr ⟨(hw _ w31), (hw _ w84)⟩)
  have hEL : EW s (#[(.int p0), (.int p1), (.long p2), (.int p3)] : Array Value) own_EL := EW.nil
  have hCH : CHv s own_EL s.vm s.heap := fun p hp => by cases hp
  obtain ⟨n, o, h1, h2, h3, _, L, rfl, ⟨rfl, N, -⟩, -, hq⟩ := own_law l hw hEL hcs hcz p0 p1 p2 p3 rf gr hrf hgr p e ha hc hk s m _ below hf ((Spec.applies_iff_loose hf).mp happ).1 ⟨rfl, State.Warmed39.refl s, rfl, hCH, fun _ z => nomatch z⟩ trivial
  have hq := hq.2 rfl
  refine ⟨n, _, h1, h2, h3, hpost _ _ _ _ _ _ ⟨Cond.after_iff.mpr rfl, Cond.after_iff.mpr (eq_i res_at (Term.int_eval (1)) rfl), trivial⟩ ⟨hq.1, hq.2.1, (hq.2.2.sift fun y hy => Or.inr (N y hy)).mono (by decide) (by decide)⟩⟩
theorem main_1_1 : Claimed_1_1 := comes_1 fun _ _ _ _ _ _ h hF => ⟨h.1, hF⟩
theorem main_1_2 : Claimed_1_2 := comes_1 fun _ _ _ _ _ _ h hF => ⟨h.2.1, hF⟩
end Jvm.Pilot.@@N@@
namespace Jvm.Pilot.@@N@@
open Jvm Jvm.ClassFile Sem Op Lib Jvm.Free Jvm.Stand Jvm.Pilot.@@N@@.Jvm.D
/-! MADE BY PROGRAM (witnessworld.py) out of the Statement's table words and the real class files: 23 classes; the members and pool entries that the words name. The judged class is class 1, her method 1. -/
namespace start1
open Jvm.ClassFile
def u (s : String) : CpInfo := .utf8 (stringToUtf16 s)
/-- a pool by its gaps: so many unusable entries, then the entry; so many at the end -/
def gap : Nat → List CpInfo → List CpInfo
  | 0, r => r
  | n + 1, r => .unusable :: gap n r
def poolList (es : List (Nat × CpInfo)) (last : Nat) : List CpInfo := es.foldr (fun e r => gap e.1 (e.2 :: r)) (gap last [])
def pool (es : List (Nat × CpInfo)) (last : Nat) : Array CpInfo := ⟨poolList es last⟩
def fileOf (pool : Array CpInfo) (this : Nat) (attrs : Array Attribute := #[]) (ms : Array MethodInfo := #[]) (fl : Nat := 33) (sup : Nat := 0) (ifs : Array Nat := #[]) (fds : Array FieldInfo := #[]) : ClassFile where
  minorVersion := 0
  majorVersion := 65
  constantPool := pool
  accessFlags := fl
  thisClass := this
  superClass := sup
  interfaces := ifs
  fields := fds
  methods := ms
  attributes := attrs
def plain (name : String) (sup : Option ClassId) : Class where
  name := name
  kind := .ordinary
  loader := none
  accessFlags := 33
  super := sup
  interfaces := #[]
  cf := none
  fields := #[]
  methods := #[]
  instanceTypes := #[]
  staticTypes := #[]
  resolved := #[]
  callSites := []
  init := .initialized
  statics := none
  mirror := none

def pool0 : Array CpInfo := pool [(5, u "<init>"), (0, u "()V"), (1, .class_ 10), (1, u "java/lang/Object")] 113

def k0c0 : Code := { maxStack := 0, maxLocals := 1, code := object_method_1_code, exceptionTable := #[], attributes := #[] }
def k0m0 : Method := { name := "<init>", desc := "()V", sig := { parameters := [], returnType := none }, accessFlags := 1, code := some k0c0 }
/-- java/lang/Object -/
def k0 : Class := { plain "java/lang/Object" none with
  accessFlags := 33
  interfaces := #[]
  cf := some (fileOf pool0 8 #[] #[{ accessFlags := 1, nameIndex := 5, descriptorIndex := 6, attributes := #[] }] 33 0 #[] #[])
  fields := #[]
  methods := #[k0m0]
  instanceTypes := #[]
  staticTypes := #[]
  resolved := Array.replicate 124 none
  statics := none }

def pool1 : Array CpInfo := pool [(2, .class_ 4), (1, u "java/lang/Object"), (0, u "<init>"), (0, u "()V"), (0, .class_ 8), (0, u "java/lang/String"), (0, .methodref 7 10), (0, .nameAndType 5 11), (0, u "([C)V"), (0, .fieldref 13 14), (0, .class_ 15), (0, .nameAndType 16 17), (0, u "com/example/tranche/tranche/Payout$Kind"), (0, u "GRAB"), (0, u "Lcom/example/tranche/tranche/Payout$Kind;"), (0, .fieldref 13 19), (0, .nameAndType 20 17), (0, u "REFUND"), (0, .class_ 22), (0, u "com/example/tranche/tranche/Payout"), (0, .methodref 21 24), (0, .nameAndType 5 25), (0, u "(Lcom/example/tranche/tranche/Payout$Kind;Ljava/lang/String;Ljava/lang/String;J)V"), (0, .class_ 27), (0, u "com/example/tranche/tranche/Delivery"), (0, .methodref 26 29), (0, .nameAndType 5 30), (0, u "(Ljava/lang/String;Lcom/example/tranche/tranche/Payout;I)V"), (0, .methodref 26 32), (0, .nameAndType 33 34), (0, u "next"), (0, u "()Lcom/example/tranche/tranche/Delivery;"), (0, .methodref 26 36), (0, .nameAndType 37 38), (0, u "payoutId"), (0, u "()Ljava/lang/String;"), (0, .methodref 26 40), (0, .nameAndType 41 42), (0, u "payout"), (0, u "()Lcom/example/tranche/tranche/Payout;"), (0, .methodref 26 44), (0, .nameAndType 45 46), (0, u "tries"), (0, u "()I"), (0, .class_ 48), (0, u "com/example/tranche/tranche/DeliveryNextPinLaw"), (2, u "law"), (0, u "(IIJI)Z")] 7

def k1m0 : Method := { name := "<init>", desc := "()V", sig := { parameters := [], returnType := none }, accessFlags := 1, code := none }
def k1c1 : Code := { maxStack := 7, maxLocals := 16, code := code, exceptionTable := #[], attributes := #[] }
def k1m1 : Method := { name := "law", desc := "(IIJI)Z", sig := { parameters := [.int, .int, .long, .int], returnType := some .boolean }, accessFlags := 9, code := some k1c1 }
/-- com/example/tranche/tranche/DeliveryNextPinLaw -/
def k1 : Class := { plain "com/example/tranche/tranche/DeliveryNextPinLaw" (some 0) with
  accessFlags := 49
  interfaces := #[]
  cf := some (fileOf pool1 47 #[] #[{ accessFlags := 1, nameIndex := 5, descriptorIndex := 6, attributes := #[] }, { accessFlags := 9, nameIndex := 51, descriptorIndex := 52, attributes := #[] }] 49 2 #[] #[])
  fields := #[]
  methods := #[k1m0, k1m1]
  instanceTypes := #[]
  staticTypes := #[]
  resolved := Array.replicate 60 none
  statics := none }

def pool2 : Array CpInfo := pool [(1, .class_ 2), (0, u "java/io/Serializable"), (0, .class_ 4), (0, u "java/lang/Object")] 2

/-- java/io/Serializable -/
def k2 : Class := { plain "java/io/Serializable" (some 0) with
  accessFlags := 1537
  interfaces := #[]
  cf := some (fileOf pool2 1 #[] #[] 1537 3 #[] #[])
  fields := #[]
  methods := #[]
  instanceTypes := #[]
  staticTypes := #[]
  resolved := Array.replicate 7 none
  statics := none }

def pool3 : Array CpInfo := pool [(1, .class_ 2), (0, u "java/lang/Comparable"), (0, .class_ 4), (0, u "java/lang/Object")] 7

/-- java/lang/Comparable -/
def k3 : Class := { plain "java/lang/Comparable" (some 0) with
  accessFlags := 1537
  interfaces := #[]
  cf := some (fileOf pool3 1 #[] #[] 1537 3 #[] #[])
  fields := #[]
  methods := #[]
  instanceTypes := #[]
  staticTypes := #[]
  resolved := Array.replicate 12 none
  statics := none }

def pool4 : Array CpInfo := pool [(2, .class_ 4), (1, u "java/lang/CharSequence"), (42, .class_ 48), (0, u "java/lang/CharSequence$1CodePointIterator"), (10, .class_ 60), (0, u "java/lang/CharSequence$1CharIterator"), (5, .class_ 67), (0, u "java/lang/Object")] 63

/-- java/lang/CharSequence -/
def k4 : Class := { plain "java/lang/CharSequence" (some 0) with
  accessFlags := 1537
  interfaces := #[]
  cf := some (fileOf pool4 2 #[.nestMembers #[47, 59]] #[] 1537 66 #[] #[])
  fields := #[]
  methods := #[]
  instanceTypes := #[]
  staticTypes := #[]
  resolved := Array.replicate 131 none
  statics := none }

def pool5 : Array CpInfo := pool [(1, .class_ 2), (0, u "java/lang/constant/Constable"), (0, .class_ 4), (0, u "java/lang/Object")] 6

/-- java/lang/constant/Constable -/
def k5 : Class := { plain "java/lang/constant/Constable" (some 0) with
  accessFlags := 1537
  interfaces := #[]
  cf := some (fileOf pool5 1 #[] #[] 1537 3 #[] #[])
  fields := #[]
  methods := #[]
  instanceTypes := #[]
  staticTypes := #[]
  resolved := Array.replicate 11 none
  statics := none }

def pool6 : Array CpInfo := pool [(1, .class_ 2), (0, u "java/lang/constant/ConstantDesc"), (0, .class_ 4), (0, u "java/lang/Object")] 32

/-- java/lang/constant/ConstantDesc -/
def k6 : Class := { plain "java/lang/constant/ConstantDesc" (some 0) with
  accessFlags := 1537
  interfaces := #[]
  cf := some (fileOf pool6 1 #[] #[] 1537 3 #[] #[])
  fields := #[]
  methods := #[]
  instanceTypes := #[]
  staticTypes := #[]
  resolved := Array.replicate 37 none
  statics := none }

def pool7 : Array CpInfo := pool [(1, .methodref 2 3), (0, .class_ 4), (0, .nameAndType 5 6), (0, u "java/lang/Object"), (0, u "<init>"), (0, u "()V"), (2, .fieldref 10 11), (0, .class_ 12), (0, .nameAndType 13 14), (0, u "java/lang/String"), (0, u "value"), (0, u "[B"), (0, .fieldref 10 16), (0, .nameAndType 17 18), (0, u "coder"), (0, u "B"), (2, u "hash"), (0, u "I"), (2, u "hashIsZero"), (0, u "Z"), (0, .methodref 10 28), (0, .nameAndType 5 29), (0, u "([CIILjava/lang/Void;)V"), (8, .fieldref 10 39), (0, .nameAndType 40 26), (0, u "COMPACT_STRINGS"), (1, .class_ 44), (1, u "java/lang/StringUTF16"), (0, u "compress"), (1, .methodref 42 48), (0, .nameAndType 49 50), (0, u "coderFromArrayLen"), (0, u "([BI)B"), (126, .methodref 42 178), (0, .nameAndType 45 179), (0, u "([CII)[B"), (395, .class_ 576), (0, u "java/lang/CharSequence"), (22, u "CASE_INSENSITIVE_ORDER"), (0, u "Ljava/util/Comparator;"), (409, u "([C)V"), (90, u "serialPersistentFields"), (0, u "[Ljava/io/ObjectStreamField;"), (0, .class_ 1104), (0, u "java/lang/String$CaseInsensitiveComparator"), (1, .class_ 1107), (0, u "java/io/Serializable"), (0, .class_ 1109), (0, u "java/lang/Comparable"), (0, .class_ 1111), (0, u "java/lang/constant/Constable"), (0, .class_ 1113), (0, u "java/lang/constant/ConstantDesc"), (2, u "serialVersionUID"), (0, u "J"), (3, u "REPL"), (0, u "C"), (2, u "LATIN1"), (1, u "UTF16")] 323

def k7m0 : Method := { name := "<init>", desc := "()V", sig := { parameters := [], returnType := none }, accessFlags := 1, code := none }
def k7c1 : Code := { maxStack := 5, maxLocals := 2, code := jdk_42_method_3_code, exceptionTable := #[], attributes := #[] }
def k7m1 : Method := { name := "<init>", desc := "([C)V", sig := { parameters := [(.array .char)], returnType := none }, accessFlags := 1, code := some k7c1 }
def k7c2 : Code := { maxStack := 4, maxLocals := 6, code := jdk_42_method_149_code, exceptionTable := #[], attributes := #[] }
def k7m2 : Method := { name := "<init>", desc := "([CIILjava/lang/Void;)V", sig := { parameters := [(.array .char), .int, .int, (.object "java/lang/Void")], returnType := none }, accessFlags := 2, code := some k7c2 }
/-- java/lang/String -/
def k7 : Class := { plain "java/lang/String" (some 0) with
  accessFlags := 49
  interfaces := #[2, 3, 4, 5, 6]
  cf := some (fileOf pool7 10 #[.nestMembers #[1103]] #[{ accessFlags := 1, nameIndex := 5, descriptorIndex := 6, attributes := #[] }, { accessFlags := 1, nameIndex := 5, descriptorIndex := 1010, attributes := #[] }, { accessFlags := 2, nameIndex := 5, descriptorIndex := 29, attributes := #[] }] 49 2 #[1106, 1108, 575, 1110, 1112] #[{ accessFlags := 18, nameIndex := 13, descriptorIndex := 14, attributes := #[] }, { accessFlags := 18, nameIndex := 17, descriptorIndex := 18, attributes := #[] }, { accessFlags := 2, nameIndex := 21, descriptorIndex := 22, attributes := #[] }, { accessFlags := 2, nameIndex := 25, descriptorIndex := 26, attributes := #[] }, { accessFlags := 26, nameIndex := 1116, descriptorIndex := 1117, attributes := #[] }, { accessFlags := 24, nameIndex := 40, descriptorIndex := 26, attributes := #[] }, { accessFlags := 26, nameIndex := 1101, descriptorIndex := 1102, attributes := #[] }, { accessFlags := 26, nameIndex := 1121, descriptorIndex := 1122, attributes := #[] }, { accessFlags := 25, nameIndex := 599, descriptorIndex := 600, attributes := #[] }, { accessFlags := 24, nameIndex := 1125, descriptorIndex := 18, attributes := #[] }, { accessFlags := 24, nameIndex := 1127, descriptorIndex := 18, attributes := #[] }])
  fields := #[{ name := "value", type := (.array .byte), accessFlags := 18, slot := 0, constantValue := 0 }, { name := "coder", type := .byte, accessFlags := 18, slot := 1, constantValue := 0 }, { name := "hash", type := .int, accessFlags := 2, slot := 2, constantValue := 0 }, { name := "hashIsZero", type := .boolean, accessFlags := 2, slot := 3, constantValue := 0 }, { name := "serialVersionUID", type := .long, accessFlags := 26, slot := 0, constantValue := 0 }, { name := "COMPACT_STRINGS", type := .boolean, accessFlags := 24, slot := 1, constantValue := 0 }, { name := "serialPersistentFields", type := (.array (.object "java/io/ObjectStreamField")), accessFlags := 26, slot := 2, constantValue := 0 }, { name := "REPL", type := .char, accessFlags := 26, slot := 3, constantValue := 0 }, { name := "CASE_INSENSITIVE_ORDER", type := (.object "java/util/Comparator"), accessFlags := 25, slot := 4, constantValue := 0 }, { name := "LATIN1", type := .byte, accessFlags := 24, slot := 5, constantValue := 0 }, { name := "UTF16", type := .byte, accessFlags := 24, slot := 6, constantValue := 0 }]
  methods := #[k7m0, k7m1, k7m2]
  instanceTypes := #[(.array .byte), .byte, .int, .boolean]
  staticTypes := #[.long, .boolean, (.array (.object "java/io/ObjectStreamField")), .char, (.object "java/util/Comparator"), .byte, .byte]
  resolved := Array.replicate 1451 none
  statics := some 0 }

def pool8 : Array CpInfo := pool [(6, .class_ 8), (1, u "java/lang/Object"), (0, u "<init>"), (0, u "()V"), (1, .class_ 14), (1, u "java/lang/StringUTF16"), (31, u "$assertionsDisabled"), (0, u "Z"), (13, u "HI_BYTE_SHIFT"), (0, u "I"), (2, u "LO_BYTE_SHIFT"), (49, .methodref 12 116), (0, .nameAndType 117 118), (0, u "compress"), (0, u "([CI[BII)I"), (3, u "([CII)[B"), (138, u "coderFromArrayLen"), (0, u "([BI)B"), (106, .class_ 371), (1, u "java/lang/StringUTF16$LinesSpliterator"), (58, u "MAX_LENGTH"), (196, .class_ 628), (0, u "java/lang/StringUTF16$CodePointsSpliterator"), (0, .class_ 630), (0, u "java/lang/StringUTF16$CharsSpliterator")] 4

def k8m0 : Method := { name := "<init>", desc := "()V", sig := { parameters := [], returnType := none }, accessFlags := 0, code := none }
def k8c1 : Code := { maxStack := 2, maxLocals := 2, code := jdk_52_method_15_code, exceptionTable := #[], attributes := #[] }
def k8m1 : Method := { name := "coderFromArrayLen", desc := "([BI)B", sig := { parameters := [(.array .byte), .int], returnType := some .byte }, accessFlags := 8, code := some k8c1 }
def k8c2 : Code := { maxStack := 5, maxLocals := 6, code := jdk_52_method_16_code, exceptionTable := #[], attributes := #[] }
def k8m2 : Method := { name := "compress", desc := "([CII)[B", sig := { parameters := [(.array .char), .int, .int], returnType := some (.array .byte) }, accessFlags := 9, code := some k8c2 }
def k8c3 : Code := { maxStack := 3, maxLocals := 7, code := jdk_52_method_21_code, exceptionTable := #[], attributes := #[] }
def k8m3 : Method := { name := "compress", desc := "([CI[BII)I", sig := { parameters := [(.array .char), .int, (.array .byte), .int, .int], returnType := some .int }, accessFlags := 9, code := some k8c3 }
/-- java/lang/StringUTF16 -/
def k8 : Class := { plain "java/lang/StringUTF16" (some 0) with
  accessFlags := 48
  interfaces := #[]
  cf := some (fileOf pool8 12 #[.nestMembers #[627, 629, 369]] #[{ accessFlags := 0, nameIndex := 9, descriptorIndex := 10, attributes := #[] }, { accessFlags := 8, nameIndex := 261, descriptorIndex := 262, attributes := #[] }, { accessFlags := 9, nameIndex := 117, descriptorIndex := 122, attributes := #[] }, { accessFlags := 9, nameIndex := 117, descriptorIndex := 118, attributes := #[] }] 48 6 #[] #[{ accessFlags := 26, nameIndex := 61, descriptorIndex := 62, attributes := #[] }, { accessFlags := 26, nameIndex := 65, descriptorIndex := 62, attributes := #[] }, { accessFlags := 24, nameIndex := 430, descriptorIndex := 62, attributes := #[] }, { accessFlags := 4120, nameIndex := 46, descriptorIndex := 47, attributes := #[] }])
  fields := #[{ name := "HI_BYTE_SHIFT", type := .int, accessFlags := 26, slot := 0, constantValue := 0 }, { name := "LO_BYTE_SHIFT", type := .int, accessFlags := 26, slot := 1, constantValue := 0 }, { name := "MAX_LENGTH", type := .int, accessFlags := 24, slot := 2, constantValue := 0 }, { name := "$assertionsDisabled", type := .boolean, accessFlags := 4120, slot := 3, constantValue := 0 }]
  methods := #[k8m0, k8m1, k8m2, k8m3]
  instanceTypes := #[]
  staticTypes := #[.int, .int, .int, .boolean]
  resolved := Array.replicate 635 none
  statics := none }

def pool9 : Array CpInfo := pool [(2, .class_ 4), (1, u "java/lang/Enum"), (0, u "name"), (0, u "Ljava/lang/String;"), (2, u "ordinal"), (0, u "I"), (1, .class_ 14), (1, u "java/lang/Object"), (4, u "hash"), (86, .class_ 108), (1, u "java/lang/Enum$EnumDesc"), (2, .class_ 112), (0, u "java/lang/constant/Constable"), (0, .class_ 114), (0, u "java/lang/Comparable"), (0, .class_ 116), (0, u "java/io/Serializable")] 87

/-- java/lang/Enum -/
def k9 : Class := { plain "java/lang/Enum" (some 0) with
  accessFlags := 1057
  interfaces := #[5, 3, 2]
  cf := some (fileOf pool9 2 #[.nestMembers #[106]] #[] 1057 12 #[111, 113, 115] #[{ accessFlags := 18, nameIndex := 5, descriptorIndex := 6, attributes := #[] }, { accessFlags := 18, nameIndex := 9, descriptorIndex := 10, attributes := #[] }, { accessFlags := 2, nameIndex := 19, descriptorIndex := 10, attributes := #[] }])
  fields := #[{ name := "name", type := (.object "java/lang/String"), accessFlags := 18, slot := 0, constantValue := 0 }, { name := "ordinal", type := .int, accessFlags := 18, slot := 1, constantValue := 0 }, { name := "hash", type := .int, accessFlags := 2, slot := 2, constantValue := 0 }]
  methods := #[]
  instanceTypes := #[(.object "java/lang/String"), .int, .int]
  staticTypes := #[]
  resolved := Array.replicate 204 none
  statics := none }

def pool10 : Array CpInfo := pool [(1, .class_ 2), (0, u "com/example/tranche/tranche/Payout$Kind"), (2, u "GRAB"), (0, u "Lcom/example/tranche/tranche/Payout$Kind;"), (2, u "REFUND"), (2, u "$VALUES"), (0, u "[Lcom/example/tranche/tranche/Payout$Kind;"), (6, .class_ 22), (1, u "java/lang/Enum"), (8, u "code"), (0, u "Ljava/lang/String;"), (45, .class_ 79), (0, u "com/example/tranche/tranche/Payout")] 16

/-- com/example/tranche/tranche/Payout$Kind -/
def k10 : Class := { plain "com/example/tranche/tranche/Payout$Kind" (some 9) with
  accessFlags := 16432
  interfaces := #[]
  cf := some (fileOf pool10 1 #[.nestHost 78] #[] 16432 20 #[] #[{ accessFlags := 16409, nameIndex := 5, descriptorIndex := 6, attributes := #[] }, { accessFlags := 16409, nameIndex := 9, descriptorIndex := 6, attributes := #[] }, { accessFlags := 18, nameIndex := 31, descriptorIndex := 32, attributes := #[] }, { accessFlags := 4122, nameIndex := 12, descriptorIndex := 13, attributes := #[] }])
  fields := #[{ name := "GRAB", type := (.object "com/example/tranche/tranche/Payout$Kind"), accessFlags := 16409, slot := 0, constantValue := 0 }, { name := "REFUND", type := (.object "com/example/tranche/tranche/Payout$Kind"), accessFlags := 16409, slot := 1, constantValue := 0 }, { name := "code", type := (.object "java/lang/String"), accessFlags := 18, slot := 3, constantValue := 0 }, { name := "$VALUES", type := (.array (.object "com/example/tranche/tranche/Payout$Kind")), accessFlags := 4122, slot := 2, constantValue := 0 }]
  methods := #[]
  instanceTypes := #[(.object "java/lang/String"), .int, .int, (.object "java/lang/String")]
  staticTypes := #[(.object "com/example/tranche/tranche/Payout$Kind"), (.object "com/example/tranche/tranche/Payout$Kind"), (.array (.object "com/example/tranche/tranche/Payout$Kind"))]
  resolved := Array.replicate 96 none
  statics := some 1 }

def pool11 : Array CpInfo := pool [(1, .methodref 2 3), (0, .class_ 4), (0, .nameAndType 5 6), (0, u "java/lang/Object"), (0, u "<init>"), (0, u "()V"), (0, .fieldref 8 9), (0, .class_ 10), (0, .nameAndType 11 12), (0, u "com/example/tranche/tranche/Payout"), (0, u "kind"), (0, u "Lcom/example/tranche/tranche/Payout$Kind;"), (0, .fieldref 8 14), (0, .nameAndType 15 16), (0, u "packetId"), (0, u "Ljava/lang/String;"), (0, .fieldref 8 18), (0, .nameAndType 19 16), (0, u "user"), (0, .fieldref 8 21), (0, .nameAndType 22 23), (0, u "amountCents"), (0, u "J"), (0, u "(Lcom/example/tranche/tranche/Payout$Kind;Ljava/lang/String;Ljava/lang/String;J)V"), (8, .class_ 34), (0, u "com/example/tranche/tranche/Payout$Kind")] 2

def k11c0 : Code := { maxStack := 3, maxLocals := 6, code := prog_9_method_1_code, exceptionTable := #[], attributes := #[] }
def k11m0 : Method := { name := "<init>", desc := "(Lcom/example/tranche/tranche/Payout$Kind;Ljava/lang/String;Ljava/lang/String;J)V", sig := { parameters := [(.object "com/example/tranche/tranche/Payout$Kind"), (.object "java/lang/String"), (.object "java/lang/String"), .long], returnType := none }, accessFlags := 0, code := some k11c0 }
/-- com/example/tranche/tranche/Payout -/
def k11 : Class := { plain "com/example/tranche/tranche/Payout" (some 0) with
  accessFlags := 32
  interfaces := #[]
  cf := some (fileOf pool11 8 #[.nestMembers #[33]] #[{ accessFlags := 0, nameIndex := 5, descriptorIndex := 24, attributes := #[] }] 32 2 #[] #[{ accessFlags := 18, nameIndex := 11, descriptorIndex := 12, attributes := #[] }, { accessFlags := 18, nameIndex := 15, descriptorIndex := 16, attributes := #[] }, { accessFlags := 18, nameIndex := 19, descriptorIndex := 16, attributes := #[] }, { accessFlags := 18, nameIndex := 22, descriptorIndex := 23, attributes := #[] }])
  fields := #[{ name := "kind", type := (.object "com/example/tranche/tranche/Payout$Kind"), accessFlags := 18, slot := 0, constantValue := 0 }, { name := "packetId", type := (.object "java/lang/String"), accessFlags := 18, slot := 1, constantValue := 0 }, { name := "user", type := (.object "java/lang/String"), accessFlags := 18, slot := 2, constantValue := 0 }, { name := "amountCents", type := .long, accessFlags := 18, slot := 3, constantValue := 0 }]
  methods := #[k11m0]
  instanceTypes := #[(.object "com/example/tranche/tranche/Payout$Kind"), (.object "java/lang/String"), (.object "java/lang/String"), .long]
  staticTypes := #[]
  resolved := Array.replicate 37 none
  statics := none }

def pool12 : Array CpInfo := pool [(1, .methodref 2 3), (0, .class_ 4), (0, .nameAndType 5 6), (0, u "java/lang/Object"), (0, u "<init>"), (0, u "()V"), (0, .fieldref 8 9), (0, .class_ 10), (0, .nameAndType 11 12), (0, u "com/example/tranche/tranche/Delivery"), (0, u "payoutId"), (0, u "Ljava/lang/String;"), (0, .fieldref 8 14), (0, .nameAndType 15 16), (0, u "payout"), (0, u "Lcom/example/tranche/tranche/Payout;"), (0, .fieldref 8 18), (0, .nameAndType 19 20), (0, u "tries"), (0, u "I"), (0, .methodref 8 22), (0, .nameAndType 5 23), (0, u "(Ljava/lang/String;Lcom/example/tranche/tranche/Payout;I)V"), (20, u "()Ljava/lang/String;"), (0, u "()Lcom/example/tranche/tranche/Payout;"), (0, u "()I"), (0, u "next"), (0, u "()Lcom/example/tranche/tranche/Delivery;")] 4

def k12c0 : Code := { maxStack := 2, maxLocals := 4, code := prog_4_method_1_code, exceptionTable := #[], attributes := #[] }
def k12m0 : Method := { name := "<init>", desc := "(Ljava/lang/String;Lcom/example/tranche/tranche/Payout;I)V", sig := { parameters := [(.object "java/lang/String"), (.object "com/example/tranche/tranche/Payout"), .int], returnType := none }, accessFlags := 0, code := some k12c0 }
def k12c1 : Code := { maxStack := 1, maxLocals := 1, code := prog_4_method_2_code, exceptionTable := #[], attributes := #[] }
def k12m1 : Method := { name := "payoutId", desc := "()Ljava/lang/String;", sig := { parameters := [], returnType := some (.object "java/lang/String") }, accessFlags := 0, code := some k12c1 }
def k12c2 : Code := { maxStack := 1, maxLocals := 1, code := prog_4_method_3_code, exceptionTable := #[], attributes := #[] }
def k12m2 : Method := { name := "payout", desc := "()Lcom/example/tranche/tranche/Payout;", sig := { parameters := [], returnType := some (.object "com/example/tranche/tranche/Payout") }, accessFlags := 0, code := some k12c2 }
def k12c3 : Code := { maxStack := 1, maxLocals := 1, code := prog_4_method_4_code, exceptionTable := #[], attributes := #[] }
def k12m3 : Method := { name := "tries", desc := "()I", sig := { parameters := [], returnType := some .int }, accessFlags := 0, code := some k12c3 }
def k12c4 : Code := { maxStack := 6, maxLocals := 1, code := prog_4_method_5_code, exceptionTable := #[], attributes := #[] }
def k12m4 : Method := { name := "next", desc := "()Lcom/example/tranche/tranche/Delivery;", sig := { parameters := [], returnType := some (.object "com/example/tranche/tranche/Delivery") }, accessFlags := 0, code := some k12c4 }
/-- com/example/tranche/tranche/Delivery -/
def k12 : Class := { plain "com/example/tranche/tranche/Delivery" (some 0) with
  accessFlags := 32
  interfaces := #[]
  cf := some (fileOf pool12 8 #[] #[{ accessFlags := 0, nameIndex := 5, descriptorIndex := 23, attributes := #[] }, { accessFlags := 0, nameIndex := 11, descriptorIndex := 44, attributes := #[] }, { accessFlags := 0, nameIndex := 15, descriptorIndex := 45, attributes := #[] }, { accessFlags := 0, nameIndex := 19, descriptorIndex := 46, attributes := #[] }, { accessFlags := 0, nameIndex := 47, descriptorIndex := 48, attributes := #[] }] 32 2 #[] #[{ accessFlags := 18, nameIndex := 11, descriptorIndex := 12, attributes := #[] }, { accessFlags := 18, nameIndex := 15, descriptorIndex := 16, attributes := #[] }, { accessFlags := 18, nameIndex := 19, descriptorIndex := 20, attributes := #[] }])
  fields := #[{ name := "payoutId", type := (.object "java/lang/String"), accessFlags := 18, slot := 0, constantValue := 0 }, { name := "payout", type := (.object "com/example/tranche/tranche/Payout"), accessFlags := 18, slot := 1, constantValue := 0 }, { name := "tries", type := .int, accessFlags := 18, slot := 2, constantValue := 0 }]
  methods := #[k12m0, k12m1, k12m2, k12m3, k12m4]
  instanceTypes := #[(.object "java/lang/String"), (.object "com/example/tranche/tranche/Payout"), .int]
  staticTypes := #[]
  resolved := Array.replicate 53 none
  statics := none }

def pool13 : Array CpInfo := pool [(4, .class_ 6), (1, u "java/lang/Object"), (0, u "<init>"), (0, u "()V"), (5, .class_ 16), (1, u "java/lang/StringLatin1"), (104, u "$assertionsDisabled"), (0, u "Z"), (98, .class_ 223), (1, u "java/lang/StringLatin1$LinesSpliterator"), (166, .class_ 391), (0, u "java/lang/StringLatin1$CharsSpliterator")] 3

def k13m0 : Method := { name := "<init>", desc := "()V", sig := { parameters := [], returnType := none }, accessFlags := 0, code := none }
/-- java/lang/StringLatin1 -/
def k13 : Class := { plain "java/lang/StringLatin1" (some 0) with
  accessFlags := 48
  interfaces := #[]
  cf := some (fileOf pool13 14 #[.nestMembers #[390, 221]] #[{ accessFlags := 0, nameIndex := 7, descriptorIndex := 8, attributes := #[] }] 48 4 #[] #[{ accessFlags := 4120, nameIndex := 121, descriptorIndex := 122, attributes := #[] }])
  fields := #[{ name := "$assertionsDisabled", type := .boolean, accessFlags := 4120, slot := 0, constantValue := 0 }]
  methods := #[k13m0]
  instanceTypes := #[]
  staticTypes := #[.boolean]
  resolved := Array.replicate 395 none
  statics := none }

def pool14 : Array CpInfo := pool [(2, .class_ 4), (1, u "java/lang/Object"), (0, u "<init>"), (0, u "()V"), (17, .class_ 26), (1, u "jdk/internal/util/Preconditions"), (28, .class_ 56), (0, u "jdk/internal/util/Preconditions$4"), (57, .class_ 115), (0, u "jdk/internal/util/Preconditions$1"), (7, u "SIOOBE_FORMATTER"), (0, u "Ljava/util/function/BiFunction;"), (0, .class_ 126), (0, u "jdk/internal/util/Preconditions$2"), (3, u "AIOOBE_FORMATTER"), (0, .class_ 132), (0, u "jdk/internal/util/Preconditions$3"), (3, u "IOOBE_FORMATTER")] 57

def k14m0 : Method := { name := "<init>", desc := "()V", sig := { parameters := [], returnType := none }, accessFlags := 1, code := none }
/-- jdk/internal/util/Preconditions -/
def k14 : Class := { plain "jdk/internal/util/Preconditions" (some 0) with
  accessFlags := 33
  interfaces := #[]
  cf := some (fileOf pool14 24 #[.nestMembers #[55, 131, 125, 114]] #[{ accessFlags := 1, nameIndex := 5, descriptorIndex := 6, attributes := #[] }] 33 2 #[] #[{ accessFlags := 25, nameIndex := 123, descriptorIndex := 124, attributes := #[] }, { accessFlags := 25, nameIndex := 130, descriptorIndex := 124, attributes := #[] }, { accessFlags := 25, nameIndex := 136, descriptorIndex := 124, attributes := #[] }])
  fields := #[{ name := "SIOOBE_FORMATTER", type := (.object "java/util/function/BiFunction"), accessFlags := 25, slot := 0, constantValue := 0 }, { name := "AIOOBE_FORMATTER", type := (.object "java/util/function/BiFunction"), accessFlags := 25, slot := 1, constantValue := 0 }, { name := "IOOBE_FORMATTER", type := (.object "java/util/function/BiFunction"), accessFlags := 25, slot := 2, constantValue := 0 }]
  methods := #[k14m0]
  instanceTypes := #[]
  staticTypes := #[(.object "java/util/function/BiFunction"), (.object "java/util/function/BiFunction"), (.object "java/util/function/BiFunction")]
  resolved := Array.replicate 194 none
  statics := some 2 }

def pool15 : Array CpInfo := pool [(9, u "<init>"), (6, .class_ 18), (1, u "java/lang/Object"), (0, u "()V"), (1, .class_ 23), (1, u "jdk/internal/util/ArraysSupport"), (0, u "LOG2_ARRAY_LONG_INDEX_SCALE"), (0, u "I"), (2, u "U"), (0, u "Ljdk/internal/misc/Unsafe;"), (8, u "BIG_ENDIAN"), (0, u "Z"), (8, u "LOG2_BYTE_BIT_SIZE"), (4, u "LOG2_ARRAY_INT_INDEX_SCALE"), (54, u "JLA"), (0, u "Ljdk/internal/access/JavaLangAccess;"), (11, u "LOG2_ARRAY_BOOLEAN_INDEX_SCALE"), (9, u "LOG2_ARRAY_BYTE_INDEX_SCALE"), (5, u "LOG2_ARRAY_CHAR_INDEX_SCALE"), (5, u "LOG2_ARRAY_SHORT_INDEX_SCALE"), (18, u "LOG2_ARRAY_FLOAT_INDEX_SCALE"), (24, u "LOG2_ARRAY_DOUBLE_INDEX_SCALE"), (89, u "T_BOOLEAN"), (2, u "T_CHAR"), (1, u "T_FLOAT"), (1, u "T_DOUBLE"), (1, u "T_BYTE"), (1, u "T_SHORT"), (1, u "T_INT"), (1, u "T_LONG"), (1, u "SOFT_MAX_ARRAY_LENGTH")] 83

def k15m0 : Method := { name := "<init>", desc := "()V", sig := { parameters := [], returnType := none }, accessFlags := 2, code := none }
/-- jdk/internal/util/ArraysSupport -/
def k15 : Class := { plain "jdk/internal/util/ArraysSupport" (some 0) with
  accessFlags := 33
  interfaces := #[]
  cf := some (fileOf pool15 21 #[] #[{ accessFlags := 2, nameIndex := 9, descriptorIndex := 19, attributes := #[] }] 33 16 #[] #[{ accessFlags := 24, nameIndex := 28, descriptorIndex := 29, attributes := #[] }, { accessFlags := 26, nameIndex := 38, descriptorIndex := 39, attributes := #[] }, { accessFlags := 25, nameIndex := 121, descriptorIndex := 25, attributes := #[] }, { accessFlags := 25, nameIndex := 131, descriptorIndex := 25, attributes := #[] }, { accessFlags := 25, nameIndex := 137, descriptorIndex := 25, attributes := #[] }, { accessFlags := 25, nameIndex := 143, descriptorIndex := 25, attributes := #[] }, { accessFlags := 25, nameIndex := 53, descriptorIndex := 25, attributes := #[] }, { accessFlags := 25, nameIndex := 24, descriptorIndex := 25, attributes := #[] }, { accessFlags := 25, nameIndex := 162, descriptorIndex := 25, attributes := #[] }, { accessFlags := 25, nameIndex := 187, descriptorIndex := 25, attributes := #[] }, { accessFlags := 26, nameIndex := 48, descriptorIndex := 25, attributes := #[] }, { accessFlags := 25, nameIndex := 277, descriptorIndex := 25, attributes := #[] }, { accessFlags := 25, nameIndex := 280, descriptorIndex := 25, attributes := #[] }, { accessFlags := 25, nameIndex := 282, descriptorIndex := 25, attributes := #[] }, { accessFlags := 25, nameIndex := 284, descriptorIndex := 25, attributes := #[] }, { accessFlags := 25, nameIndex := 286, descriptorIndex := 25, attributes := #[] }, { accessFlags := 25, nameIndex := 288, descriptorIndex := 25, attributes := #[] }, { accessFlags := 25, nameIndex := 290, descriptorIndex := 25, attributes := #[] }, { accessFlags := 25, nameIndex := 292, descriptorIndex := 25, attributes := #[] }, { accessFlags := 26, nameIndex := 108, descriptorIndex := 109, attributes := #[] }, { accessFlags := 25, nameIndex := 294, descriptorIndex := 25, attributes := #[] }])
  fields := #[{ name := "U", type := (.object "jdk/internal/misc/Unsafe"), accessFlags := 24, slot := 0, constantValue := 0 }, { name := "BIG_ENDIAN", type := .boolean, accessFlags := 26, slot := 1, constantValue := 0 }, { name := "LOG2_ARRAY_BOOLEAN_INDEX_SCALE", type := .int, accessFlags := 25, slot := 2, constantValue := 0 }, { name := "LOG2_ARRAY_BYTE_INDEX_SCALE", type := .int, accessFlags := 25, slot := 3, constantValue := 0 }, { name := "LOG2_ARRAY_CHAR_INDEX_SCALE", type := .int, accessFlags := 25, slot := 4, constantValue := 0 }, { name := "LOG2_ARRAY_SHORT_INDEX_SCALE", type := .int, accessFlags := 25, slot := 5, constantValue := 0 }, { name := "LOG2_ARRAY_INT_INDEX_SCALE", type := .int, accessFlags := 25, slot := 6, constantValue := 0 }, { name := "LOG2_ARRAY_LONG_INDEX_SCALE", type := .int, accessFlags := 25, slot := 7, constantValue := 0 }, { name := "LOG2_ARRAY_FLOAT_INDEX_SCALE", type := .int, accessFlags := 25, slot := 8, constantValue := 0 }, { name := "LOG2_ARRAY_DOUBLE_INDEX_SCALE", type := .int, accessFlags := 25, slot := 9, constantValue := 0 }, { name := "LOG2_BYTE_BIT_SIZE", type := .int, accessFlags := 26, slot := 10, constantValue := 0 }, { name := "T_BOOLEAN", type := .int, accessFlags := 25, slot := 11, constantValue := 0 }, { name := "T_CHAR", type := .int, accessFlags := 25, slot := 12, constantValue := 0 }, { name := "T_FLOAT", type := .int, accessFlags := 25, slot := 13, constantValue := 0 }, { name := "T_DOUBLE", type := .int, accessFlags := 25, slot := 14, constantValue := 0 }, { name := "T_BYTE", type := .int, accessFlags := 25, slot := 15, constantValue := 0 }, { name := "T_SHORT", type := .int, accessFlags := 25, slot := 16, constantValue := 0 }, { name := "T_INT", type := .int, accessFlags := 25, slot := 17, constantValue := 0 }, { name := "T_LONG", type := .int, accessFlags := 25, slot := 18, constantValue := 0 }, { name := "JLA", type := (.object "jdk/internal/access/JavaLangAccess"), accessFlags := 26, slot := 19, constantValue := 0 }, { name := "SOFT_MAX_ARRAY_LENGTH", type := .int, accessFlags := 25, slot := 20, constantValue := 0 }]
  methods := #[k15m0]
  instanceTypes := #[]
  staticTypes := #[(.object "jdk/internal/misc/Unsafe"), .boolean, .int, .int, .int, .int, .int, .int, .int, .int, .int, .int, .int, .int, .int, .int, .int, .int, .int, (.object "jdk/internal/access/JavaLangAccess"), .int]
  resolved := Array.replicate 378 none
  statics := none }

def pool16 : Array CpInfo := pool [(1, u "java/lang/Cloneable"), (0, .class_ 1), (0, u "java/lang/Object"), (0, .class_ 3)] 3

/-- java/lang/Cloneable -/
def k16 : Class := { plain "java/lang/Cloneable" (some 0) with
  accessFlags := 1537
  interfaces := #[]
  cf := some (fileOf pool16 2 #[] #[] 1537 4 #[] #[])
  fields := #[]
  methods := #[]
  instanceTypes := #[]
  staticTypes := #[]
  resolved := Array.replicate 8 none
  statics := none }

/-- the primitive byte -/
def k17 : Class := { plain "byte" none with kind := .primitive 'B', accessFlags := 0x411 }
/-- [B -/
def k18 : Class := { plain "[B" (some 0) with kind := .array 17 .byte, interfaces := #[16, 2], accessFlags := 1041 }

/-- the primitive char -/
def k19 : Class := { plain "char" none with kind := .primitive 'C', accessFlags := 0x411 }
/-- [C -/
def k20 : Class := { plain "[C" (some 0) with kind := .array 19 .char, interfaces := #[16, 2], accessFlags := 1041 }

/-- the primitive int -/
def k21 : Class := { plain "int" none with kind := .primitive 'I', accessFlags := 0x411 }
/-- [I -/
def k22 : Class := { plain "[I" (some 0) with kind := .array 21 .int, interfaces := #[16, 2], accessFlags := 1041 }

def heap : Heap := #[{ cls := 7, slots := #[.long 0, .int 1, .null, .int 0, .null, .int 0, .int 0], vm := .statics 7 },
  { cls := 10, slots := #[.ref 4, .ref 3, .null], vm := .statics 10 },
  { cls := 14, slots := #[.null, .null, .null], vm := .statics 14 },
  { cls := 10, slots := #[.null, .int 0, .int 0, .null], vm := .none },
  { cls := 10, slots := #[.null, .int 1, .int 0, .null], vm := .none }]
def classes : Array Class := #[k0, k1, k2, k3, k4, k5, k6, k7, k8, k9, k10, k11, k12, k13, k14, k15, k16, k17, k18, k19, k20, k21, k22]
def interned : List (Array UInt16 × Addr) := []
def slotsUsed : Nat := 21
def theMethod : MethodId := ⟨1, 1⟩
def args0 : Array Value := #[.int 5, .int 3, .long 7, .int 1]
def aboutOver (below : List Frame) : State where
  vm := { classes := classes, interned := interned.toArray }
  heap := heap
  slotsUsed := slotsUsed
  threads := #[{ frames := .invoking theMethod args0 :: below }]
def below0 : List Frame := [.native { method := ⟨0, 0⟩, args := #[] }]
def about1 : State := aboutOver below0
def p0 : Program := .bare "" "" ""
def e0 : Env := launch0.env 0 0 0
theorem w_frames : about1.frames = Frame.invoking theMethod args0 :: below0 := rfl
set_option maxRecDepth 65536 in
theorem w_args : argsFit about1.vm theMethod args0 = true := by decide +kernel
set_option maxRecDepth 65536 in
theorem w_heap : heapFits about1 = true := by decide +kernel
set_option maxRecDepth 65536 in
theorem w_runnable : about1.curStatus? = some .runnable := by decide +kernel
set_option maxRecDepth 65536 in
theorem w_alone : about1.alone = true := by decide +kernel
set_option maxRecDepth 65536 in
theorem w_named : about1.methodNamed? x = some theMethod := by decide +kernel
set_option maxRecDepth 65536 in
theorem w_hears : about1.hears theMethod below0 = true := by decide +kernel
set_option maxRecDepth 65536 in
theorem w_ripe : about1.ripe theMethod args0 below0 = true := by decide +kernel
theorem w_running : about1.status = .running := rfl
set_option maxRecDepth 65536 in
theorem w_room : about1.hasRoom e0.platform room_1 = true :=
  launch0.hasRoom_least _ room_1 (by decide +kernel) (by decide +kernel) (by decide +kernel) (by decide +kernel) (by decide +kernel) (by decide +kernel)
theorem allAtoms_all (ts : List Jvm.Cond) (a : Array Jvm.Value) (st : Jvm.State) : (allAtoms ts).before a st = ts.all (fun c => c.before a st) := by
  induction ts with
  | nil => rfl
  | cons c t ih =>
    show (Jvm.Cond.and c (allAtoms t)).before a st = _
    rw [Jvm.Cond.before_and, ih, List.all_cons]
def words1 : List Jvm.Cond := Jvm.Cond.code x code maxLocals ret :: tables_1
/-- a 'code' word, met by the world's own term for the bytes: nothing is compared byte by byte -/
theorem code_word {y : MethodName} {bytes : ByteArray} {mx : Nat} {rt : Option FieldType} {a : Array Value} {s : State} {m : MethodId} {meth : Method} {c : Code} (h1 : s.methodNamed? y = some m) (h2 : s.vm.method? m = some meth) (h3 : meth.code = some c) (h4 : c.code = bytes)
    (h5 : (c.maxLocals == mx && c.exceptionTable.isEmpty && decide (c.maxStack ≤ mostOperands) && decide (meth.sig.returnType = rt) && !meth.locks && decide (parseMethodDescriptor y.desc = some meth.sig)) = true) : (Jvm.Cond.code y bytes mx rt).before a s = true := by
  simp only [Bool.and_eq_true, beq_iff_eq, Bool.not_eq_true', decide_eq_true_eq] at h5
  obtain ⟨⟨⟨⟨⟨g1, g2⟩, g3⟩, g4⟩, g5⟩, g6⟩ := h5
  simp [Cond.before, Cond.holds, Cond.value, h1, h2, h3, h4, g1, g2, g3, g4, g5, g6]
def isCode : Jvm.Cond → Bool
  | .code _ _ _ _ => true
  | _ => false
theorem all_split {L : List Jvm.Cond} {P : Jvm.Cond → Bool} (h1 : L.all (fun c => isCode c || P c) = true) (h2 : ∀ c ∈ L.filter isCode, P c = true) : L.all P = true := by
  refine List.all_eq_true.mpr fun c hc => ?_
  have h := List.all_eq_true.mp h1 c hc
  rcases Bool.eq_false_or_eq_true (isCode c) with hi | hi
  · exact h2 c (List.mem_filter.mpr ⟨hc, hi⟩)
  · simpa [hi] using h
set_option maxRecDepth 65536 in
theorem w_c0 : (Jvm.Cond.code x code maxLocals ret).before args0 about1 = true := code_word (m := ⟨1, 1⟩) (meth := k1m1) (c := k1c1) (by decide +kernel) rfl rfl rfl (by decide +kernel)
set_option maxRecDepth 65536 in
theorem w_c1 : (Jvm.Cond.code ({ cls := "java/lang/String", name := "<init>", desc := "([C)V" } : Jvm.MethodName) jdk_42_method_3_code (2 : Nat) (Option.none : Option Jvm.ClassFile.FieldType)).before args0 about1 = true := code_word (m := ⟨7, 1⟩) (meth := k7m1) (c := k7c1) (by decide +kernel) rfl rfl rfl (by decide +kernel)
set_option maxRecDepth 65536 in
theorem w_c2 : (Jvm.Cond.code ({ cls := "java/lang/String", name := "<init>", desc := "([CIILjava/lang/Void;)V" } : Jvm.MethodName) jdk_42_method_149_code (6 : Nat) (Option.none : Option Jvm.ClassFile.FieldType)).before args0 about1 = true := code_word (m := ⟨7, 2⟩) (meth := k7m2) (c := k7c2) (by decide +kernel) rfl rfl rfl (by decide +kernel)
set_option maxRecDepth 65536 in
theorem w_c3 : (Jvm.Cond.code ({ cls := "java/lang/Object", name := "<init>", desc := "()V" } : Jvm.MethodName) object_method_1_code (1 : Nat) (Option.none : Option Jvm.ClassFile.FieldType)).before args0 about1 = true := code_word (m := ⟨0, 0⟩) (meth := k0m0) (c := k0c0) (by decide +kernel) rfl rfl rfl (by decide +kernel)
set_option maxRecDepth 65536 in
theorem w_c4 : (Jvm.Cond.code ({ cls := "java/lang/StringUTF16", name := "compress", desc := "([CII)[B" } : Jvm.MethodName) jdk_52_method_16_code (6 : Nat) (Option.some (Jvm.ClassFile.FieldType.array Jvm.ClassFile.FieldType.byte))).before args0 about1 = true := code_word (m := ⟨8, 2⟩) (meth := k8m2) (c := k8c2) (by decide +kernel) rfl rfl rfl (by decide +kernel)
set_option maxRecDepth 65536 in
theorem w_c5 : (Jvm.Cond.code ({ cls := "java/lang/StringUTF16", name := "compress", desc := "([CI[BII)I" } : Jvm.MethodName) jdk_52_method_21_code (7 : Nat) (Option.some Jvm.ClassFile.FieldType.int)).before args0 about1 = true := code_word (m := ⟨8, 3⟩) (meth := k8m3) (c := k8c3) (by decide +kernel) rfl rfl rfl (by decide +kernel)
set_option maxRecDepth 65536 in
theorem w_c6 : (Jvm.Cond.code ({ cls := "java/lang/StringUTF16", name := "coderFromArrayLen", desc := "([BI)B" } : Jvm.MethodName) jdk_52_method_15_code (2 : Nat) (Option.some Jvm.ClassFile.FieldType.byte)).before args0 about1 = true := code_word (m := ⟨8, 1⟩) (meth := k8m1) (c := k8c1) (by decide +kernel) rfl rfl rfl (by decide +kernel)
set_option maxRecDepth 65536 in
theorem w_c7 : (Jvm.Cond.code ({ cls := "com/example/tranche/tranche/Payout", name := "<init>", desc := "(Lcom/example/tranche/tranche/Payout$Kind;Ljava/lang/String;Ljava/lang/String;J)V" } : Jvm.MethodName) prog_9_method_1_code (6 : Nat) (Option.none : Option Jvm.ClassFile.FieldType)).before args0 about1 = true := code_word (m := ⟨11, 0⟩) (meth := k11m0) (c := k11c0) (by decide +kernel) rfl rfl rfl (by decide +kernel)
set_option maxRecDepth 65536 in
theorem w_c8 : (Jvm.Cond.code ({ cls := "com/example/tranche/tranche/Delivery", name := "<init>", desc := "(Ljava/lang/String;Lcom/example/tranche/tranche/Payout;I)V" } : Jvm.MethodName) prog_4_method_1_code (4 : Nat) (Option.none : Option Jvm.ClassFile.FieldType)).before args0 about1 = true := code_word (m := ⟨12, 0⟩) (meth := k12m0) (c := k12c0) (by decide +kernel) rfl rfl rfl (by decide +kernel)
set_option maxRecDepth 65536 in
theorem w_c9 : (Jvm.Cond.code ({ cls := "com/example/tranche/tranche/Delivery", name := "next", desc := "()Lcom/example/tranche/tranche/Delivery;" } : Jvm.MethodName) prog_4_method_5_code (1 : Nat) (Option.some (Jvm.ClassFile.FieldType.object "com/example/tranche/tranche/Delivery"))).before args0 about1 = true := code_word (m := ⟨12, 4⟩) (meth := k12m4) (c := k12c4) (by decide +kernel) rfl rfl rfl (by decide +kernel)
set_option maxRecDepth 65536 in
theorem w_c10 : (Jvm.Cond.code ({ cls := "com/example/tranche/tranche/Delivery", name := "payoutId", desc := "()Ljava/lang/String;" } : Jvm.MethodName) prog_4_method_2_code (1 : Nat) (Option.some (Jvm.ClassFile.FieldType.object "java/lang/String"))).before args0 about1 = true := code_word (m := ⟨12, 1⟩) (meth := k12m1) (c := k12c1) (by decide +kernel) rfl rfl rfl (by decide +kernel)
set_option maxRecDepth 65536 in
theorem w_c11 : (Jvm.Cond.code ({ cls := "com/example/tranche/tranche/Delivery", name := "payout", desc := "()Lcom/example/tranche/tranche/Payout;" } : Jvm.MethodName) prog_4_method_3_code (1 : Nat) (Option.some (Jvm.ClassFile.FieldType.object "com/example/tranche/tranche/Payout"))).before args0 about1 = true := code_word (m := ⟨12, 2⟩) (meth := k12m2) (c := k12c2) (by decide +kernel) rfl rfl rfl (by decide +kernel)
set_option maxRecDepth 65536 in
theorem w_c12 : (Jvm.Cond.code ({ cls := "com/example/tranche/tranche/Delivery", name := "tries", desc := "()I" } : Jvm.MethodName) prog_4_method_4_code (1 : Nat) (Option.some Jvm.ClassFile.FieldType.int)).before args0 about1 = true := code_word (m := ⟨12, 3⟩) (meth := k12m3) (c := k12c3) (by decide +kernel) rfl rfl rfl (by decide +kernel)
def codes1 : List Jvm.Cond := [Jvm.Cond.code x code maxLocals ret, Jvm.Cond.code ({ cls := "java/lang/String", name := "<init>", desc := "([C)V" } : Jvm.MethodName) jdk_42_method_3_code (2 : Nat) (Option.none : Option Jvm.ClassFile.FieldType), Jvm.Cond.code ({ cls := "java/lang/String", name := "<init>", desc := "([CIILjava/lang/Void;)V" } : Jvm.MethodName) jdk_42_method_149_code (6 : Nat) (Option.none : Option Jvm.ClassFile.FieldType), Jvm.Cond.code ({ cls := "java/lang/Object", name := "<init>", desc := "()V" } : Jvm.MethodName) object_method_1_code (1 : Nat) (Option.none : Option Jvm.ClassFile.FieldType), Jvm.Cond.code ({ cls := "java/lang/StringUTF16", name := "compress", desc := "([CII)[B" } : Jvm.MethodName) jdk_52_method_16_code (6 : Nat) (Option.some (Jvm.ClassFile.FieldType.array Jvm.ClassFile.FieldType.byte)), Jvm.Cond.code ({ cls := "java/lang/StringUTF16", name := "compress", desc := "([CI[BII)I" } : Jvm.MethodName) jdk_52_method_21_code (7 : Nat) (Option.some Jvm.ClassFile.FieldType.int), Jvm.Cond.code ({ cls := "java/lang/StringUTF16", name := "coderFromArrayLen", desc := "([BI)B" } : Jvm.MethodName) jdk_52_method_15_code (2 : Nat) (Option.some Jvm.ClassFile.FieldType.byte), Jvm.Cond.code ({ cls := "com/example/tranche/tranche/Payout", name := "<init>", desc := "(Lcom/example/tranche/tranche/Payout$Kind;Ljava/lang/String;Ljava/lang/String;J)V" } : Jvm.MethodName) prog_9_method_1_code (6 : Nat) (Option.none : Option Jvm.ClassFile.FieldType), Jvm.Cond.code ({ cls := "com/example/tranche/tranche/Delivery", name := "<init>", desc := "(Ljava/lang/String;Lcom/example/tranche/tranche/Payout;I)V" } : Jvm.MethodName) prog_4_method_1_code (4 : Nat) (Option.none : Option Jvm.ClassFile.FieldType), Jvm.Cond.code ({ cls := "com/example/tranche/tranche/Delivery", name := "next", desc := "()Lcom/example/tranche/tranche/Delivery;" } : Jvm.MethodName) prog_4_method_5_code (1 : Nat) (Option.some (Jvm.ClassFile.FieldType.object "com/example/tranche/tranche/Delivery")), Jvm.Cond.code ({ cls := "com/example/tranche/tranche/Delivery", name := "payoutId", desc := "()Ljava/lang/String;" } : Jvm.MethodName) prog_4_method_2_code (1 : Nat) (Option.some (Jvm.ClassFile.FieldType.object "java/lang/String")), Jvm.Cond.code ({ cls := "com/example/tranche/tranche/Delivery", name := "payout", desc := "()Lcom/example/tranche/tranche/Payout;" } : Jvm.MethodName) prog_4_method_3_code (1 : Nat) (Option.some (Jvm.ClassFile.FieldType.object "com/example/tranche/tranche/Payout")), Jvm.Cond.code ({ cls := "com/example/tranche/tranche/Delivery", name := "tries", desc := "()I" } : Jvm.MethodName) prog_4_method_4_code (1 : Nat) (Option.some Jvm.ClassFile.FieldType.int)]
set_option maxRecDepth 65536 in
theorem codes_eq : words1.filter isCode = codes1 := rfl
theorem w_codes : ∀ c ∈ words1.filter isCode, c.before args0 about1 = true := by
  rw [codes_eq]
  intro c hc
  simp only [codes1, List.mem_cons, List.not_mem_nil, or_false] at hc
  rcases hc with rfl | rfl | rfl | rfl | rfl | rfl | rfl | rfl | rfl | rfl | rfl | rfl | rfl
  · exact w_c0
  · exact w_c1
  · exact w_c2
  · exact w_c3
  · exact w_c4
  · exact w_c5
  · exact w_c6
  · exact w_c7
  · exact w_c8
  · exact w_c9
  · exact w_c10
  · exact w_c11
  · exact w_c12
set_option maxRecDepth 65536 in
theorem w_t1 : (words1.take 24).all (fun c => isCode c || c.before args0 about1) = true := by decide +kernel
set_option maxRecDepth 65536 in
theorem w_t2 : ((words1.drop 24).take 24).all (fun c => isCode c || c.before args0 about1) = true := by decide +kernel
set_option maxRecDepth 65536 in
theorem w_t3 : (((words1.drop 24).drop 24).take 24).all (fun c => isCode c || c.before args0 about1) = true := by decide +kernel
set_option maxRecDepth 65536 in
theorem w_t4 : (((words1.drop 24).drop 24).drop 24).all (fun c => isCode c || c.before args0 about1) = true := by decide +kernel
theorem w_tables : (allAtoms (Jvm.Cond.code x code maxLocals ret :: tables_1)).before args0 about1 = true := by
  rw [allAtoms_all]
  show words1.all (fun c => c.before args0 about1) = true
  refine all_split ?_ w_codes
  rw [← List.take_append_drop 24 words1, List.all_append, w_t1, ← List.take_append_drop 24 (words1.drop 24), List.all_append, w_t2, ← List.take_append_drop 24 ((words1.drop 24).drop 24), List.all_append, w_t3, w_t4]
  rfl
set_option maxRecDepth 65536 in
theorem w_rest : rest_1_c.before args0 about1 = true := by decide +kernel
set_option maxRecDepth 65536 in
theorem w_case : (Jvm.Cond.and given_1 narrow_1).before args0 about1 = true := by decide +kernel
theorem w_applies : (headSpec (Jvm.Cond.code x code maxLocals ret :: tables_1) room_1).applies x e0.platform about1 = true :=
  (Spec.applies_iff w_frames).mpr ⟨w_running, w_runnable, w_alone, w_named, w_hears, w_ripe, w_room, w_tables⟩
theorem atStart : AtStart classFile x code maxLocals ret World_1 tables_1 room_1 Calls_1 rest_1 Pre_1 launch0 p0 e0 about1 theMethod args0 below0 :=
  ⟨lists_1, trivial, launch0.admits_env _ _ _, launch0.least_env, fairChoices_fair.cas, fairChoices_fair.clock, w_frames, w_args, w_heap, w_applies, trivial, w_rest, w_case⟩
end start1
theorem witness_1 : WitnessClaimed_1 := ⟨start1.p0, start1.e0, start1.about1, start1.theMethod, start1.args0, start1.below0, start1.atStart⟩
end Jvm.Pilot.@@N@@
