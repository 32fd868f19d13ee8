import JvmDerived
import JvmDerived.Pilot.@@N@@Statement
import JvmDerived.Pilot.@@N@@Code
set_option linter.unusedVariables false
set_option linter.unusedSimpArgs false
namespace Jvm.Own
open Jvm Jvm.ClassFile Sem Op Lib Jvm.Free Jvm.Stand Jvm.LawKit Jvm.RoadKit Bundle
/-! The walk's own layer: 'On' bears all that a walk knows of where it stands, 'Go' is what is left to show; one law an instruction, in the shape 'Go behind it gives Go ahead of it'. -/
abbrev Cx : Type := Program × Launch × Env × State × MethodId × Array Value × List Frame × Method × Code
abbrev Cx.p (C : Cx) : Program := C.1
abbrev Cx.l (C : Cx) : Launch := C.2.1
abbrev Cx.e (C : Cx) : Env := C.2.2.1
abbrev Cx.s (C : Cx) : State := C.2.2.2.1
abbrev Cx.m (C : Cx) : MethodId := C.2.2.2.2.1
abbrev Cx.args (C : Cx) : Array Value := C.2.2.2.2.2.1
abbrev Cx.below (C : Cx) : List Frame := C.2.2.2.2.2.2.1
abbrev Cx.meth (C : Cx) : Method := C.2.2.2.2.2.2.2.1
abbrev Cx.c (C : Cx) : Code := C.2.2.2.2.2.2.2.2
/-- an instruction of the body b -/
def Ins (b : ByteArray) (pc : Nat) (i : Instr) (len pc' : Nat) : Prop := decode b pc = .ok (i, len) ∧ pc + len = pc'
/-- where a branch goes -/
def Jmp (pc : Nat) (o : Int) (pc' : Nat) : Prop := 0 ≤ (pc : Int) + o ∧ ((pc : Int) + o).toNat = pc'
/-- the frame of an end -/
def EndQ (q : Bool) (s : State) (o : Outcome) (t : State) (L : List Loc) (k n : Nat) : Prop := ReturnedEndW s o t L k n ∧ (q = true → FrameEnd s o t L k n)
def On (C : Cx) (R : Room) (own : String) (b : ByteArray) (ml : Nat) (rt : Option FieldType) (nm : String) (q : Bool) (Z : State) (a0 : Array Value) (EL : List (String × Nat)) (n0 : Nat) (vm : Vm) (T : State) (h : Heap) (k n : Nat) : Prop :=
  (∃ (k0 : Nat) (locs : List Loc), Stand C.p C.l C.e R (C.s.setVm vm) C.m C.args C.below C.meth C.c T locs k n ∧ Fr n0 locs ∧ C.s.Since vm k0 ∧ k0 ≤ h.size) ∧ T.heap = h ∧ C.p.tables.exec = Jvm.exec ∧ C.c.code = b ∧ C.c.maxLocals = ml ∧ C.meth.sig.returnType = rt ∧ C.meth.name = nm ∧ C.meth.locks = false ∧
    Z.Warmed39 vm ∧ vm.findClass own = some C.m.cls ∧ EW Z a0 EL ∧ CHr Z EL C.s.vm C.s.heap vm h ∧ (q = true → C.s.WarmedH vm) ∧ Old Z n0 h
def Go (C : Cx) (R : Room) (q : Bool) (Z : State) (EL : List (String × Nat)) (n0 : Nat) (Q : Option Value → Heap → Prop) (T : State) (pc : Nat) (Ls : Array Slot) (st : List Value) : Prop :=
  ∃ s₂ o, Steps C.p.tables C.e C.below (T.setTop (mkF C.m pc Ls st)) s₂ ∧ s₂.status = .running ∧ Ended s₂ C.below o ∧ ∃ v L, o = .returned v ∧ (Q v s₂.heap ∧ Fr n0 L ∧ Old Z n0 s₂.heap) ∧ CHr Z EL C.s.vm C.s.heap s₂.vm s₂.heap ∧ EndQ q C.s o s₂ L R.cells R.slots
section Laws
variable {C : Cx} {R : Room} {own : String} {b : ByteArray} {ml : Nat} {rt : Option FieldType} {nm : String} {q : Bool} {Z : State} {a0 : Array Value} {EL : List (String × Nat)} {n0 : Nat} {vm : Vm} {T : State} {h : Heap} {k n : Nat} {Q : Option Value → Heap → Prop} {pc pc' pt : Nat} {Ls Ls' : Array Slot} {st : List Value}
theorem Go.of {T' : State} {Ls' : Array Slot} {st' : List Value} (f : ∀ t, Steps C.p.tables C.e C.below (T'.setTop (mkF C.m pc' Ls' st')) t → Steps C.p.tables C.e C.below (T.setTop (mkF C.m pc Ls st)) t) (g : Go C R q Z EL n0 Q T' pc' Ls' st') : Go C R q Z EL n0 Q T pc Ls st := by
  obtain ⟨s2, o, hs, r⟩ := g
  exact ⟨s2, o, f _ hs, r⟩
theorem On.here (X : On C R own b ml rt nm q Z a0 EL n0 vm T h k n) : At T C.m C.c C.below := by
  obtain ⟨⟨_, _, S, -⟩, -⟩ := X; exact S.here
theorem On.exec (X : On C R own b ml rt nm q Z a0 EL n0 vm T h k n) : C.p.tables.exec = Jvm.exec := X.2.2.1
theorem On.dec (X : On C R own b ml rt nm q Z a0 EL n0 vm T h k n) {i : Instr} {len : Nat} (hi : Ins b pc i len pc') : decode C.c.code pc = .ok (i, len) := by rw [X.2.2.2.1]; exact hi.1
theorem On.zw (X : On C R own b ml rt nm q Z a0 EL n0 vm T h k n) : Z.Warmed39 vm := X.2.2.2.2.2.2.2.2.1
theorem On.owned (X : On C R own b ml rt nm q Z a0 EL n0 vm T h k n) : vm.findClass own = some C.m.cls := X.2.2.2.2.2.2.2.2.2.1
theorem On.ew (X : On C R own b ml rt nm q Z a0 EL n0 vm T h k n) : EW Z a0 EL := X.2.2.2.2.2.2.2.2.2.2.1
theorem On.chr (X : On C R own b ml rt nm q Z a0 EL n0 vm T h k n) : CHr Z EL C.s.vm C.s.heap vm h := X.2.2.2.2.2.2.2.2.2.2.2.1
theorem On.chv (X : On C R own b ml rt nm q Z a0 EL n0 vm T h k n) : CHv Z EL vm h := X.chr.1
theorem On.warm (X : On C R own b ml rt nm q Z a0 EL n0 vm T h k n) : q = true → C.s.WarmedH vm := X.2.2.2.2.2.2.2.2.2.2.2.2.1
theorem On.old (X : On C R own b ml rt nm q Z a0 EL n0 vm T h k n) : Old Z n0 h := X.2.2.2.2.2.2.2.2.2.2.2.2.2
theorem On.n0le (X : On C R own b ml rt nm q Z a0 EL n0 vm T h k n) : n0 ≤ h.size := X.old.1 ▸ X.old.2.1
theorem On.ext0 (X : On C R own b ml rt nm q Z a0 EL n0 vm T h k n) : Ext Z.heap h := X.old.2
theorem On.eT (X : On C R own b ml rt nm q Z a0 EL n0 vm T h k n) : T.heap = h := X.2.1
theorem On.put (X : On C R own b ml rt nm q Z a0 EL n0 vm T h k n) {T' : State} {h' : Heap} {k' n' k0 : Nat} {locs' : List Loc} (S' : Stand C.p C.l C.e R (C.s.setVm vm) C.m C.args C.below C.meth C.c T' locs' k' n') (N' : Fr n0 locs') (hS : C.s.Since vm k0) (hk : k0 ≤ h.size)
    (e' : T'.heap = h') (hc : CHr Z EL vm h vm h') (hO : Old Z n0 h') : On C R own b ml rt nm q Z a0 EL n0 vm T' h' k' n' := by
  obtain ⟨-, -, e2, e3, e4, e5, e6, e7, e8, e9, e10, e11, e12, e13⟩ := X
  exact ⟨⟨k0, locs', S', N', hS, Nat.le_trans hk hc.2.1⟩, e', e2, e3, e4, e5, e6, e7, e8, e9, e10, e11.trans hc, e12, hO⟩
theorem On.more (X : On C R own b ml rt nm q Z a0 EL n0 vm T h k n) {k' n' : Nat} (hk : k ≤ k') (hn : n ≤ n') : On C R own b ml rt nm q Z a0 EL n0 vm T h k' n' := by
  obtain ⟨⟨k0, locs, S, N, hS, hk0⟩, -⟩ := id X
  exact X.put (S.more hk hn) N hS hk0 X.eT (CHr.refl X.chv) X.old
/-! ### plain steps -/
theorem On.aload_n (X : On C R own b ml rt nm q Z a0 EL n0 vm T h k n) {j : Fin 4} {v : Value} (hi : Ins b pc (.aload_n j) 1 pc') (hl : Ls[j.val]? = some (.val v)) (hv : v.isRef = true) (g : Go C R q Z EL n0 Q T pc' Ls (v :: st)) : Go C R q Z EL n0 Q T pc Ls st := by
  obtain ⟨-, rfl⟩ := id hi; exact Go.of (fun t z => XS.aloadN X.here X.exec rfl (X.dec hi) hl hv z) g
theorem On.aload (X : On C R own b ml rt nm q Z a0 EL n0 vm T h k n) {j : Nat} {v : Value} (hi : Ins b pc (.aload j) 2 pc') (hl : Ls[j]? = some (.val v)) (hv : v.isRef = true) (g : Go C R q Z EL n0 Q T pc' Ls (v :: st)) : Go C R q Z EL n0 Q T pc Ls st := by
  obtain ⟨-, rfl⟩ := id hi; exact Go.of (fun t z => XS.aload X.here X.exec rfl (X.dec hi) hl hv z) g
theorem On.iload_n (X : On C R own b ml rt nm q Z a0 EL n0 vm T h k n) {j : Fin 4} {v : Int32} (hi : Ins b pc (.iload_n j) 1 pc') (hl : Ls[j.val]? = some (.val (.int v))) (g : Go C R q Z EL n0 Q T pc' Ls (.int v :: st)) : Go C R q Z EL n0 Q T pc Ls st := by
  obtain ⟨-, rfl⟩ := id hi; exact Go.of (fun t z => XS.iloadN X.here X.exec rfl (X.dec hi) hl z) g
theorem On.iload (X : On C R own b ml rt nm q Z a0 EL n0 vm T h k n) {j : Nat} {v : Int32} (hi : Ins b pc (.iload j) 2 pc') (hl : Ls[j]? = some (.val (.int v))) (g : Go C R q Z EL n0 Q T pc' Ls (.int v :: st)) : Go C R q Z EL n0 Q T pc Ls st := by
  obtain ⟨-, rfl⟩ := id hi; exact Go.of (fun t z => XS.iload X.here X.exec rfl (X.dec hi) hl z) g
theorem On.lload_n (X : On C R own b ml rt nm q Z a0 EL n0 vm T h k n) {j : Fin 4} {v : Int64} (hi : Ins b pc (.lload_n j) 1 pc') (hl : Ls[j.val]? = some (.val (.long v))) (g : Go C R q Z EL n0 Q T pc' Ls (.long v :: st)) : Go C R q Z EL n0 Q T pc Ls st := by
  obtain ⟨-, rfl⟩ := id hi; exact Go.of (fun t z => XS.lloadN X.here X.exec rfl (X.dec hi) hl z) g
theorem On.lload (X : On C R own b ml rt nm q Z a0 EL n0 vm T h k n) {j : Nat} {v : Int64} (hi : Ins b pc (.lload j) 2 pc') (hl : Ls[j]? = some (.val (.long v))) (g : Go C R q Z EL n0 Q T pc' Ls (.long v :: st)) : Go C R q Z EL n0 Q T pc Ls st := by
  obtain ⟨-, rfl⟩ := id hi; exact Go.of (fun t z => XS.lload X.here X.exec rfl (X.dec hi) hl z) g
theorem On.iconst (X : On C R own b ml rt nm q Z a0 EL n0 vm T h k n) {i : Int} {z : Int32} (hi : Ins b pc (.iconst i) 1 pc') (hz : Int32.ofInt i = z) (g : Go C R q Z EL n0 Q T pc' Ls (.int z :: st)) : Go C R q Z EL n0 Q T pc Ls st := by
  subst hz; obtain ⟨-, rfl⟩ := id hi; exact Go.of (fun t z => XS.iconst X.here X.exec rfl (X.dec hi) z) g
theorem On.bipush (X : On C R own b ml rt nm q Z a0 EL n0 vm T h k n) {i : Int} {z : Int32} (hi : Ins b pc (.bipush i) 2 pc') (hz : (Int8.ofInt i).toInt32 = z) (g : Go C R q Z EL n0 Q T pc' Ls (.int z :: st)) : Go C R q Z EL n0 Q T pc Ls st := by
  subst hz; obtain ⟨-, rfl⟩ := id hi; exact Go.of (fun t z => XS.bipush X.here X.exec rfl (X.dec hi) z) g
theorem On.sipush (X : On C R own b ml rt nm q Z a0 EL n0 vm T h k n) {i : Int} {z : Int32} (hi : Ins b pc (.sipush i) 3 pc') (hz : (Int16.ofInt i).toInt32 = z) (g : Go C R q Z EL n0 Q T pc' Ls (.int z :: st)) : Go C R q Z EL n0 Q T pc Ls st := by
  subst hz; obtain ⟨-, rfl⟩ := id hi; exact Go.of (fun t z => XS.sipush X.here X.exec rfl (X.dec hi) z) g
theorem On.lconst (X : On C R own b ml rt nm q Z a0 EL n0 vm T h k n) {i : Fin 2} {z : Int64} (hi : Ins b pc (.lconst i) 1 pc') (hz : Int64.ofNat i = z) (g : Go C R q Z EL n0 Q T pc' Ls (.long z :: st)) : Go C R q Z EL n0 Q T pc Ls st := by
  subst hz; obtain ⟨-, rfl⟩ := id hi; exact Go.of (fun t z => XS.lconst X.here X.exec rfl (X.dec hi) z) g
theorem On.aconst_null (X : On C R own b ml rt nm q Z a0 EL n0 vm T h k n) (hi : Ins b pc .aconst_null 1 pc') (g : Go C R q Z EL n0 Q T pc' Ls (.null :: st)) : Go C R q Z EL n0 Q T pc Ls st := by
  obtain ⟨-, rfl⟩ := id hi; exact Go.of (fun t z => XS.aconstNull X.here X.exec rfl (X.dec hi) z) g
theorem On.istore_n (X : On C R own b ml rt nm q Z a0 EL n0 vm T h k n) {j : Fin 4} {x : Int32} (hi : Ins b pc (.istore_n j) 1 pc') (hl : storeLocals Ls j.val (.int x) = some Ls') (g : Go C R q Z EL n0 Q T pc' Ls' st) : Go C R q Z EL n0 Q T pc Ls (.int x :: st) := by
  obtain ⟨-, rfl⟩ := id hi; exact Go.of (fun t z => XS.istoreN X.here X.exec rfl (X.dec hi) rfl hl z) g
theorem On.istore (X : On C R own b ml rt nm q Z a0 EL n0 vm T h k n) {j : Nat} {x : Int32} (hi : Ins b pc (.istore j) 2 pc') (hl : storeLocals Ls j (.int x) = some Ls') (g : Go C R q Z EL n0 Q T pc' Ls' st) : Go C R q Z EL n0 Q T pc Ls (.int x :: st) := by
  obtain ⟨-, rfl⟩ := id hi; exact Go.of (fun t z => XS.istore X.here X.exec rfl (X.dec hi) rfl hl z) g
theorem On.lstore_n (X : On C R own b ml rt nm q Z a0 EL n0 vm T h k n) {j : Fin 4} {x : Int64} (hi : Ins b pc (.lstore_n j) 1 pc') (hl : storeLocals Ls j.val (.long x) = some Ls') (g : Go C R q Z EL n0 Q T pc' Ls' st) : Go C R q Z EL n0 Q T pc Ls (.long x :: st) := by
  obtain ⟨-, rfl⟩ := id hi; exact Go.of (fun t z => XS.lstoreN X.here X.exec rfl (X.dec hi) rfl hl z) g
theorem On.astore_n (X : On C R own b ml rt nm q Z a0 EL n0 vm T h k n) {j : Fin 4} {x : Value} (hi : Ins b pc (.astore_n j) 1 pc') (hv : x.isRef = true) (hl : storeLocals Ls j.val x = some Ls') (g : Go C R q Z EL n0 Q T pc' Ls' st) : Go C R q Z EL n0 Q T pc Ls (x :: st) := by
  obtain ⟨-, rfl⟩ := id hi; exact Go.of (fun t z => XS.astoreN X.here X.exec rfl (X.dec hi) rfl hv hl z) g
theorem On.astore (X : On C R own b ml rt nm q Z a0 EL n0 vm T h k n) {j : Nat} {x : Value} (hi : Ins b pc (.astore j) 2 pc') (hv : x.isRef = true) (hl : storeLocals Ls j x = some Ls') (g : Go C R q Z EL n0 Q T pc' Ls' st) : Go C R q Z EL n0 Q T pc Ls (x :: st) := by
  obtain ⟨-, rfl⟩ := id hi; exact Go.of (fun t z => XS.astore X.here X.exec rfl (X.dec hi) rfl hv hl z) g
theorem On.iinc (X : On C R own b ml rt nm q Z a0 EL n0 vm T h k n) {j : Nat} {cst : Int} {x y : Int32} (hi : Ins b pc (.iinc j cst) 3 pc') (hl : Ls[j]? = some (.val (.int x))) (hz : x + Int32.ofInt cst = y) (hl' : storeLocals Ls j (.int y) = some Ls') (g : Go C R q Z EL n0 Q T pc' Ls' st) : Go C R q Z EL n0 Q T pc Ls st := by
  subst hz; obtain ⟨-, rfl⟩ := id hi; exact Go.of (fun t z => XS.iinc X.here X.exec rfl (X.dec hi) hl hl' z) g
theorem On.dup (X : On C R own b ml rt nm q Z a0 EL n0 vm T h k n) {x : Value} (hi : Ins b pc .dup 1 pc') (hc : x.category = 1) (g : Go C R q Z EL n0 Q T pc' Ls (x :: x :: st)) : Go C R q Z EL n0 Q T pc Ls (x :: st) := by
  obtain ⟨-, rfl⟩ := id hi; exact Go.of (fun t z => XS.dup X.here X.exec rfl (X.dec hi) rfl hc z) g
theorem On.dup_x1 (X : On C R own b ml rt nm q Z a0 EL n0 vm T h k n) {x y : Value} (hi : Ins b pc .dup_x1 1 pc') (hc : x.category = 1) (hc' : y.category = 1) (g : Go C R q Z EL n0 Q T pc' Ls (x :: y :: x :: st)) : Go C R q Z EL n0 Q T pc Ls (x :: y :: st) := by
  obtain ⟨-, rfl⟩ := id hi; exact Go.of (fun t z => XS.dupX1 X.here X.exec rfl (X.dec hi) rfl hc hc' z) g
theorem On.dup2 (X : On C R own b ml rt nm q Z a0 EL n0 vm T h k n) {x y : Value} (hi : Ins b pc .dup2 1 pc') (hc : x.category = 1) (hc' : y.category = 1) (g : Go C R q Z EL n0 Q T pc' Ls (x :: y :: x :: y :: st)) : Go C R q Z EL n0 Q T pc Ls (x :: y :: st) := by
  obtain ⟨-, rfl⟩ := id hi; exact Go.of (fun t z => XT.dup2 X.here X.exec rfl (X.dec hi) rfl hc hc' z) g
theorem On.pop (X : On C R own b ml rt nm q Z a0 EL n0 vm T h k n) {x : Value} (hi : Ins b pc .pop 1 pc') (hc : x.category = 1) (g : Go C R q Z EL n0 Q T pc' Ls st) : Go C R q Z EL n0 Q T pc Ls (x :: st) := by
  obtain ⟨-, rfl⟩ := id hi; exact Go.of (fun t z => XS.pop X.here X.exec rfl (X.dec hi) rfl hc z) g
theorem On.iadd (X : On C R own b ml rt nm q Z a0 EL n0 vm T h k n) {x y z : Int32} (hi : Ins b pc .iadd 1 pc') (hz : x + y = z) (g : Go C R q Z EL n0 Q T pc' Ls (.int z :: st)) : Go C R q Z EL n0 Q T pc Ls (.int y :: .int x :: st) := by
  subst hz; obtain ⟨-, rfl⟩ := id hi; exact Go.of (fun t z => XS.iadd X.here X.exec rfl (X.dec hi) rfl z) g
theorem On.isub (X : On C R own b ml rt nm q Z a0 EL n0 vm T h k n) {x y z : Int32} (hi : Ins b pc .isub 1 pc') (hz : x - y = z) (g : Go C R q Z EL n0 Q T pc' Ls (.int z :: st)) : Go C R q Z EL n0 Q T pc Ls (.int y :: .int x :: st) := by
  subst hz; obtain ⟨-, rfl⟩ := id hi; exact Go.of (fun t z => XS.isub X.here X.exec rfl (X.dec hi) rfl z) g
theorem On.imul (X : On C R own b ml rt nm q Z a0 EL n0 vm T h k n) {x y z : Int32} (hi : Ins b pc .imul 1 pc') (hz : x * y = z) (g : Go C R q Z EL n0 Q T pc' Ls (.int z :: st)) : Go C R q Z EL n0 Q T pc Ls (.int y :: .int x :: st) := by
  subst hz; obtain ⟨-, rfl⟩ := id hi; exact Go.of (fun t z => XS.imul X.here X.exec rfl (X.dec hi) rfl z) g
theorem On.iand (X : On C R own b ml rt nm q Z a0 EL n0 vm T h k n) {x y z : Int32} (hi : Ins b pc .iand 1 pc') (hz : x &&& y = z) (g : Go C R q Z EL n0 Q T pc' Ls (.int z :: st)) : Go C R q Z EL n0 Q T pc Ls (.int y :: .int x :: st) := by
  subst hz; obtain ⟨-, rfl⟩ := id hi; exact Go.of (fun t z => XS.iand X.here X.exec rfl (X.dec hi) rfl z) g
theorem On.ior (X : On C R own b ml rt nm q Z a0 EL n0 vm T h k n) {x y z : Int32} (hi : Ins b pc .ior 1 pc') (hz : x ||| y = z) (g : Go C R q Z EL n0 Q T pc' Ls (.int z :: st)) : Go C R q Z EL n0 Q T pc Ls (.int y :: .int x :: st) := by
  subst hz; obtain ⟨-, rfl⟩ := id hi; exact Go.of (fun t z => XS.ior X.here X.exec rfl (X.dec hi) rfl z) g
theorem On.ixor (X : On C R own b ml rt nm q Z a0 EL n0 vm T h k n) {x y z : Int32} (hi : Ins b pc .ixor 1 pc') (hz : x ^^^ y = z) (g : Go C R q Z EL n0 Q T pc' Ls (.int z :: st)) : Go C R q Z EL n0 Q T pc Ls (.int y :: .int x :: st) := by
  subst hz; obtain ⟨-, rfl⟩ := id hi; exact Go.of (fun t z => XS.ixor X.here X.exec rfl (X.dec hi) rfl z) g
theorem On.ishl (X : On C R own b ml rt nm q Z a0 EL n0 vm T h k n) {x y z : Int32} (hi : Ins b pc .ishl 1 pc') (hz : x <<< (y &&& 31) = z) (g : Go C R q Z EL n0 Q T pc' Ls (.int z :: st)) : Go C R q Z EL n0 Q T pc Ls (.int y :: .int x :: st) := by
  subst hz; obtain ⟨-, rfl⟩ := id hi; exact Go.of (fun t z => XS.ishl X.here X.exec rfl (X.dec hi) rfl z) g
theorem On.ishr (X : On C R own b ml rt nm q Z a0 EL n0 vm T h k n) {x y z : Int32} (hi : Ins b pc .ishr 1 pc') (hz : x >>> (y &&& 31) = z) (g : Go C R q Z EL n0 Q T pc' Ls (.int z :: st)) : Go C R q Z EL n0 Q T pc Ls (.int y :: .int x :: st) := by
  subst hz; obtain ⟨-, rfl⟩ := id hi; exact Go.of (fun t z => XS.ishr X.here X.exec rfl (X.dec hi) rfl z) g
theorem On.iushr (X : On C R own b ml rt nm q Z a0 EL n0 vm T h k n) {x y z : Int32} (hi : Ins b pc .iushr 1 pc') (hz : (x.toUInt32 >>> (y &&& 31).toUInt32).toInt32 = z) (g : Go C R q Z EL n0 Q T pc' Ls (.int z :: st)) : Go C R q Z EL n0 Q T pc Ls (.int y :: .int x :: st) := by
  subst hz; obtain ⟨-, rfl⟩ := id hi; exact Go.of (fun t z => XS.iushr X.here X.exec rfl (X.dec hi) rfl z) g
theorem On.irem (X : On C R own b ml rt nm q Z a0 EL n0 vm T h k n) {x y z : Int32} (hi : Ins b pc .irem 1 pc') (hy : y ≠ 0) (hz : x % y = z) (g : Go C R q Z EL n0 Q T pc' Ls (.int z :: st)) : Go C R q Z EL n0 Q T pc Ls (.int y :: .int x :: st) := by
  subst hz; obtain ⟨-, rfl⟩ := id hi
  obtain ⟨⟨k0, locs, S, -⟩, -⟩ := id X
  exact Go.of (fun t z => iremM S X.exec rfl (X.dec hi) rfl hy z) g
theorem On.idiv (X : On C R own b ml rt nm q Z a0 EL n0 vm T h k n) {x y z : Int32} (hi : Ins b pc .idiv 1 pc') (hy : y ≠ 0) (hz : x / y = z) (g : Go C R q Z EL n0 Q T pc' Ls (.int z :: st)) : Go C R q Z EL n0 Q T pc Ls (.int y :: .int x :: st) := by
  subst hz; obtain ⟨-, rfl⟩ := id hi; exact Go.of (fun t z => XS.idiv X.here X.exec rfl (X.dec hi) rfl hy z) g
theorem On.i2c (X : On C R own b ml rt nm q Z a0 EL n0 vm T h k n) {x z : Int32} (hi : Ins b pc .i2c 1 pc') (hz : x.toUInt32.toUInt16.toUInt32.toInt32 = z) (g : Go C R q Z EL n0 Q T pc' Ls (.int z :: st)) : Go C R q Z EL n0 Q T pc Ls (.int x :: st) := by
  subst hz; obtain ⟨-, rfl⟩ := id hi; exact Go.of (fun t z => XS.i2c X.here X.exec rfl (X.dec hi) rfl z) g
theorem On.i2b (X : On C R own b ml rt nm q Z a0 EL n0 vm T h k n) {x z : Int32} (hi : Ins b pc .i2b 1 pc') (hz : x.toInt8.toInt32 = z) (g : Go C R q Z EL n0 Q T pc' Ls (.int z :: st)) : Go C R q Z EL n0 Q T pc Ls (.int x :: st) := by
  subst hz; obtain ⟨-, rfl⟩ := id hi; exact Go.of (fun t z => XS.i2b X.here X.exec rfl (X.dec hi) rfl z) g
theorem On.i2l (X : On C R own b ml rt nm q Z a0 EL n0 vm T h k n) {x : Int32} {z : Int64} (hi : Ins b pc .i2l 1 pc') (hz : x.toInt64 = z) (g : Go C R q Z EL n0 Q T pc' Ls (.long z :: st)) : Go C R q Z EL n0 Q T pc Ls (.int x :: st) := by
  subst hz; obtain ⟨-, rfl⟩ := id hi; exact Go.of (fun t z => XS.i2l X.here X.exec rfl (X.dec hi) rfl z) g
theorem On.l2i (X : On C R own b ml rt nm q Z a0 EL n0 vm T h k n) {x : Int64} {z : Int32} (hi : Ins b pc .l2i 1 pc') (hz : x.toInt32 = z) (g : Go C R q Z EL n0 Q T pc' Ls (.int z :: st)) : Go C R q Z EL n0 Q T pc Ls (.long x :: st) := by
  subst hz; obtain ⟨-, rfl⟩ := id hi; exact Go.of (fun t z => XS.l2i X.here X.exec rfl (X.dec hi) rfl z) g
theorem On.ladd (X : On C R own b ml rt nm q Z a0 EL n0 vm T h k n) {x y z : Int64} (hi : Ins b pc .ladd 1 pc') (hz : x + y = z) (g : Go C R q Z EL n0 Q T pc' Ls (.long z :: st)) : Go C R q Z EL n0 Q T pc Ls (.long y :: .long x :: st) := by
  subst hz; obtain ⟨-, rfl⟩ := id hi; exact Go.of (fun t z => XS.ladd X.here X.exec rfl (X.dec hi) rfl z) g
theorem On.lcmp (X : On C R own b ml rt nm q Z a0 EL n0 vm T h k n) {x y : Int64} {z : Int32} (hi : Ins b pc .lcmp 1 pc') (hz : lcmpW x y = z) (g : Go C R q Z EL n0 Q T pc' Ls (.int z :: st)) : Go C R q Z EL n0 Q T pc Ls (.long y :: .long x :: st) := by
  subst hz; obtain ⟨-, rfl⟩ := id hi; exact Go.of (fun t z => XS.lcmp X.here X.exec rfl (X.dec hi) rfl z) g
theorem On.goto (X : On C R own b ml rt nm q Z a0 EL n0 vm T h k n) {o : Int} (hi : Ins b pc (.goto o) 3 pc') (hj : Jmp pc o pt) (g : Go C R q Z EL n0 Q T pt Ls st) : Go C R q Z EL n0 Q T pc Ls st :=
  Go.of (fun t z => XS.goto X.here X.exec rfl rfl (X.dec hi) hj.1 hj.2 z) g
theorem On.ifY (X : On C R own b ml rt nm q Z a0 EL n0 vm T h k n) {cd : ClassFile.Cond} {o : Int} {x : Int32} (hi : Ins b pc (.ifCond cd o) 3 pc') (hj : Jmp pc o pt) (hc : ifCond.holds cd x = true) (g : Go C R q Z EL n0 Q T pt Ls st) : Go C R q Z EL n0 Q T pc Ls (.int x :: st) :=
  Go.of (fun t z => XS.ifYes X.here X.exec rfl rfl (X.dec hi) rfl hc hj.1 hj.2 z) g
theorem On.ifN (X : On C R own b ml rt nm q Z a0 EL n0 vm T h k n) {cd : ClassFile.Cond} {o : Int} {x : Int32} (hi : Ins b pc (.ifCond cd o) 3 pc') (hc : ifCond.holds cd x = false) (g : Go C R q Z EL n0 Q T pc' Ls st) : Go C R q Z EL n0 Q T pc Ls (.int x :: st) := by
  obtain ⟨-, rfl⟩ := id hi; exact Go.of (fun t z => XS.ifNo X.here X.exec rfl (X.dec hi) rfl hc z) g
theorem On.icY (X : On C R own b ml rt nm q Z a0 EL n0 vm T h k n) {cd : ClassFile.Cond} {o : Int} {x y : Int32} (hi : Ins b pc (.if_icmp cd o) 3 pc') (hj : Jmp pc o pt) (hc : if_icmp.holds cd x y = true) (g : Go C R q Z EL n0 Q T pt Ls st) : Go C R q Z EL n0 Q T pc Ls (.int y :: .int x :: st) :=
  Go.of (fun t z => XS.icmpYes X.here X.exec rfl rfl (X.dec hi) rfl hc hj.1 hj.2 z) g
theorem On.icN (X : On C R own b ml rt nm q Z a0 EL n0 vm T h k n) {cd : ClassFile.Cond} {o : Int} {x y : Int32} (hi : Ins b pc (.if_icmp cd o) 3 pc') (hc : if_icmp.holds cd x y = false) (g : Go C R q Z EL n0 Q T pc' Ls st) : Go C R q Z EL n0 Q T pc Ls (.int y :: .int x :: st) := by
  obtain ⟨-, rfl⟩ := id hi; exact Go.of (fun t z => XS.icmpNo X.here X.exec rfl (X.dec hi) rfl hc z) g
theorem On.nullY (X : On C R own b ml rt nm q Z a0 EL n0 vm T h k n) {o : Int} (hi : Ins b pc (.ifnull o) 3 pc') (hj : Jmp pc o pt) (g : Go C R q Z EL n0 Q T pt Ls st) : Go C R q Z EL n0 Q T pc Ls (.null :: st) :=
  Go.of (fun t z => XS.ifnullYes X.here X.exec rfl rfl (X.dec hi) rfl hj.1 hj.2 z) g
theorem On.nullN (X : On C R own b ml rt nm q Z a0 EL n0 vm T h k n) {o : Int} {a : Addr} (hi : Ins b pc (.ifnull o) 3 pc') (g : Go C R q Z EL n0 Q T pc' Ls st) : Go C R q Z EL n0 Q T pc Ls (.ref a :: st) := by
  obtain ⟨-, rfl⟩ := id hi; exact Go.of (fun t z => XS.ifnullNo X.here X.exec rfl (X.dec hi) rfl z) g
theorem On.nonnullY (X : On C R own b ml rt nm q Z a0 EL n0 vm T h k n) {o : Int} {a : Addr} (hi : Ins b pc (.ifnonnull o) 3 pc') (hj : Jmp pc o pt) (g : Go C R q Z EL n0 Q T pt Ls st) : Go C R q Z EL n0 Q T pc Ls (.ref a :: st) :=
  Go.of (fun t z => XS.ifnonnullYes X.here X.exec rfl rfl (X.dec hi) rfl hj.1 hj.2 z) g
theorem On.nonnullN (X : On C R own b ml rt nm q Z a0 EL n0 vm T h k n) {o : Int} (hi : Ins b pc (.ifnonnull o) 3 pc') (g : Go C R q Z EL n0 Q T pc' Ls st) : Go C R q Z EL n0 Q T pc Ls (.null :: st) := by
  obtain ⟨-, rfl⟩ := id hi; exact Go.of (fun t z => XS.ifnonnullNo X.here X.exec rfl (X.dec hi) rfl z) g
theorem On.acY (X : On C R own b ml rt nm q Z a0 EL n0 vm T h k n) {cd : ACond} {o : Int} {x y : Value} (hi : Ins b pc (.if_acmp cd o) 3 pc') (hj : Jmp pc o pt) (hx' : x.isRef = true) (hy' : y.isRef = true) (hc : XT.acmp cd x y = true) (g : Go C R q Z EL n0 Q T pt Ls st) : Go C R q Z EL n0 Q T pc Ls (y :: x :: st) :=
  Go.of (fun t z => XT.acmpYes X.here X.exec rfl rfl (X.dec hi) rfl hx' hy' hc hj.1 hj.2 z) g
theorem On.acN (X : On C R own b ml rt nm q Z a0 EL n0 vm T h k n) {cd : ACond} {o : Int} {x y : Value} (hi : Ins b pc (.if_acmp cd o) 3 pc') (hx' : x.isRef = true) (hy' : y.isRef = true) (hc : XT.acmp cd x y = false) (g : Go C R q Z EL n0 Q T pc' Ls st) : Go C R q Z EL n0 Q T pc Ls (y :: x :: st) := by
  obtain ⟨-, rfl⟩ := id hi; exact Go.of (fun t z => XT.acmpNo X.here X.exec rfl (X.dec hi) rfl hx' hy' hc z) g
end Laws
end Jvm.Own
namespace Jvm.Own
open Jvm Jvm.ClassFile Sem Op Lib Jvm.Free Jvm.Stand Jvm.LawKit Jvm.RoadKit Bundle
/-! ### steps that read or write the heap or the tables -/
section Heap
variable {C : Cx} {R : Room} {own : String} {b : ByteArray} {ml : Nat} {rt : Option FieldType} {nm : String} {q : Bool} {Z : State} {a0 : Array Value} {EL : List (String × Nat)} {n0 : Nat} {vm : Vm} {T : State} {h : Heap} {k n : Nat} {Q : Option Value → Heap → Prop} {pc pc' pt : Nat} {Ls Ls' : Array Slot} {st : List Value}
theorem On.getfield (X : On C R own b ml rt nm q Z a0 EL n0 vm T h k n) {R0 O f d : String} {ix : Nat} {a : Addr} {v : Value} (hi : Ins b pc (.getfield ix) 3 pc') (w : (Cond.fieldLink own ix R0 f d).before a0 Z = true) (via : Via Z R0 O f d) (F : Fld Z h a O f d v)
    (g : ∀ T', On C R own b ml rt nm q Z a0 EL n0 vm T' h k n → Go C R q Z EL n0 Q T' pc' Ls (v :: st)) : Go C R q Z EL n0 Q T pc Ls (.ref a :: st) := by
  obtain ⟨-, rfl⟩ := id hi
  obtain ⟨⟨k0, locs, S, N, hS, hk⟩, -⟩ := id X
  obtain ⟨T', S', e', st'⟩ := getF S X.exec X.zw X.owned (host := "") (Or.inl w) via X.eT F (g := mkF C.m pc Ls (.ref a :: st)) rfl rfl (X.dec hi)
  exact Go.of st' (g T' (X.put S' N hS hk e' (CHr.refl X.chv) X.old))
theorem On.getstatic (X : On C R own b ml rt nm q Z a0 EL n0 vm T h k n) {R0 O f d : String} {ix : Nat} {v : Value} (hi : Ins b pc (.getstatic ix) 3 pc') (w : (Cond.fieldLink own ix R0 f d).before a0 Z = true) (via : Via Z R0 O f d) (F : Sta Z h O f d v)
    (g : ∀ T', On C R own b ml rt nm q Z a0 EL n0 vm T' h k n → Go C R q Z EL n0 Q T' pc' Ls (v :: st)) : Go C R q Z EL n0 Q T pc Ls st := by
  obtain ⟨-, rfl⟩ := id hi
  obtain ⟨⟨k0, locs, S, N, hS, hk⟩, -⟩ := id X
  obtain ⟨T', S', e', st'⟩ := getS (host := "") S X.exec X.zw X.owned w via X.eT F (g := mkF C.m pc Ls st) rfl (X.dec hi)
  exact Go.of st' (g T' (X.put S' N hS hk e' (CHr.refl X.chv) X.old))
/-- Ext behind a write to a place that is new since -/
theorem ext_wr {h1 h2 h3 : Heap} {a : Addr} {sl : Nat} {v : Value} (E : Ext h1 h2) (W : Wr h2 h3 a sl v) (ha : h1.size ≤ a) : Ext h1 h3 :=
  ⟨Nat.le_trans E.1 (Nat.le_of_eq W.size.symm), fun x c hx => by
    obtain ⟨c', e1, -, -, -, e5, -⟩ := wr_at W (E.2 x c hx)
    rw [e1, e5 fun q => absurd (Array.getElem?_eq_some_iff.mp hx).1 (Nat.not_lt.mpr (q ▸ ha))]⟩
theorem ext_keep {h1 h2 h3 : Heap} {ws : List Addr} (E : Ext h1 h2) (K : Keep h2 h3 ws) (ha : ∀ x ∈ ws, h1.size ≤ x) : Ext h1 h3 :=
  ⟨Nat.le_trans E.1 K.1, fun x c hx => K.2.1 x c (E.2 x c hx) fun hm => absurd (Array.getElem?_eq_some_iff.mp hx).1 (Nat.not_lt.mpr (ha x hm))⟩
theorem ext_refl (h1 : Heap) : Ext h1 h1 := ⟨Nat.le_refl _, fun _ _ q => q⟩
theorem ext_trans {h1 h2 h3 : Heap} (E : Ext h1 h2) (E' : Ext h2 h3) : Ext h1 h3 := ⟨Nat.le_trans E.1 E'.1, fun x c q => E'.2 x c (E.2 x c q)⟩
theorem keep_ext {h1 h2 : Heap} (E : Ext h1 h2) : Keep h1 h2 [] := (Keep.refl h1 []).ext E
theorem ext_of_keep {h1 h2 : Heap} (K : Keep h1 h2 []) : Ext h1 h2 := ⟨K.1, fun x c q => K.2.1 x c q (fun z => nomatch z)⟩
/-- the general put: the field's laid word either way -/
theorem On.putfield (X : On C R own b ml rt nm q Z a0 EL n0 vm T h k n) {R0 O f d Cl : String} {ix kk : Nat} {a : Addr} {v old : Value} {ty : FieldType} (hi : Ins b pc (.putfield ix) 3 pc') (w : (Cond.fieldLink own ix R0 f d).before a0 Z = true) (via : Via Z R0 O f d) (F : Fld Z h a O f d old) (E : Exa Z h a Cl)
    (L : (Cond.lays Cl O f d).before a0 Z = true ∨ ((Cond.laysFinal Cl O f d).before a0 Z = true ∧ own = O ∧ nm = "<init>")) (wi : (Cond.instantiable Cl kk).before a0 Z = true) (hty : parseFieldDescriptor d = some ty) (hn : narrow ty v = v) (hf : fits ty v = true) (ga : n0 ≤ a) (Sf : Safe Z EL vm h a)
    (g : ∀ T' h', On C R own b ml rt nm q Z a0 EL n0 vm T' h' k n → Wr h h' a (RoadKit.slotOf Z O f d) v → Go C R q Z EL n0 Q T' pc' Ls st) : Go C R q Z EL n0 Q T pc Ls (v :: .ref a :: st) := by
  obtain ⟨-, rfl⟩ := id hi
  obtain ⟨⟨k0, locs, S, N, hS, hk⟩, -, -, -, -, -, hnm, -⟩ := id X
  obtain ⟨T', h', S', e', W', st'⟩ := putF S X.exec X.zw X.owned (host := "") (Or.inl w) via X.eT F E (L.imp id fun z => ⟨z.1, z.2.1, hnm.trans z.2.2⟩) wi hty hn hf (g := mkF C.m pc Ls (v :: .ref a :: st)) rfl rfl (X.dec hi)
  exact Go.of st' (g T' h' (X.put S' (Fr.snoc S' N ga) hS hk e' (CHr.wr W' Sf X.chv) (X.old.wr W' ga)) W')
theorem On.new (X : On C R own b ml rt nm q Z a0 EL n0 vm T h k n) {Cl : String} {ix nf k' n' : Nat} (hi : Ins b pc (.new ix) 3 pc') (w : (Cond.classLink own ix Cl).before a0 Z = true) (wi : (Cond.instantiable Cl nf).before a0 Z = true) (wz : (Cond.initialized Cl).before a0 Z = true)
    (hk' : k + 1 = k') (hn' : n + nf = n') (hc : k' ≤ R.cells) (hl : n' ≤ R.slots)
    (g : ∀ T' h' a, On C R own b ml rt nm q Z a0 EL n0 vm T' h' k' n' → Ext h h' → h.size = a → n0 ≤ a → Exa Z h' a Cl → (∀ {O nm d : String} {ty : FieldType}, Laid Z a0 Cl O nm d → parseFieldDescriptor d = some ty → Fld Z h' a O nm d (defaultValue ty)) → Unt h' a → Safe Z EL vm h' a →
      Go C R q Z EL n0 Q T' pc' Ls (.ref a :: st)) : Go C R q Z EL n0 Q T pc Ls st := by
  subst hk' hn'
  obtain ⟨-, rfl⟩ := id hi
  obtain ⟨⟨k0, locs, S, N, hS, hk⟩, -⟩ := id X
  obtain ⟨T', h', S', e', E', A', D', U', st'⟩ := newO S X.exec X.zw X.owned w wi wz X.eT (g := mkF C.m pc Ls st) rfl (X.dec hi) hc hl
  exact Go.of st' (g T' h' h.size (X.put S' N hS hk e' (CHr.ext E' X.chv) (X.old.ext E')) E' rfl X.n0le A' D' U' ((Safe.new (Nat.le_refl _)).ext E' X.chv))
theorem On.newarray (X : On C R own b ml rt nm q Z a0 EL n0 vm T h k n) {aty : ArrayType} {ty : FieldType} {z : Int32} {cap k' n' : Nat} (hi : Ins b pc (.newarray aty) 2 pc') (hty : newarray.typeOf aty = ty) (w : (Cond.arrayClass ty).before a0 Z = true)
    (hz : ¬ z < 0) (hcap : z.toNatClampNeg ≤ cap) (hbig : cap * 8 ≤ 536870912) (hk' : k + 1 = k') (hn' : n + cap = n') (hc : k' ≤ R.cells) (hl : n' ≤ R.slots)
    (g : ∀ T' h' a kA, On C R own b ml rt nm q Z a0 EL n0 vm T' h' k' n' → Ext h h' → h.size = a → n0 ≤ a → Arv Z h' a kA ty z [] (defaultValue ty) → Safe Z EL vm h' a → Go C R q Z EL n0 Q T' pc' Ls (.ref a :: st)) : Go C R q Z EL n0 Q T pc Ls (.int z :: st) := by
  subst hk' hn' hty
  obtain ⟨-, rfl⟩ := id hi
  obtain ⟨⟨k0, locs, S, N, hS, hk⟩, -⟩ := id X
  obtain ⟨T', h', kA, S', e', E', A', st'⟩ := newP S X.exec X.zw w X.eT (g := mkF C.m pc Ls (.int z :: st)) rfl (X.dec hi) rfl hz hcap hbig hc hl
  exact Go.of st' (g T' h' h.size kA (X.put S' N hS hk e' (CHr.ext E' X.chv) (X.old.ext E')) E' rfl X.n0le (Arv.new A' hz) ((Safe.new (Nat.le_refl _)).ext E' X.chv))
theorem On.anewarray (X : On C R own b ml rt nm q Z a0 EL n0 vm T h k n) {Cl ad : String} {ix : Nat} {z : Int32} {cap k' n' : Nat} (hi : Ins b pc (.anewarray ix) 3 pc') (w1 : (Cond.classLink own ix Cl).before a0 Z = true) (w2 : (Cond.arrayOver (.object Cl)).before a0 Z = true)
    (hz : ¬ z < 0) (hcap : z.toNatClampNeg ≤ cap) (hbig : cap * 8 ≤ 536870912) (hk' : k + 1 = k') (hn' : n + cap = n') (hc : k' ≤ R.cells) (hl : n' ≤ R.slots) (had : "[" ++ (FieldType.object Cl).toString = ad)
    (g : ∀ T' h' a kA, On C R own b ml rt nm q Z a0 EL n0 vm T' h' k' n' → Ext h h' → h.size = a → n0 ≤ a → Arv Z h' a kA (.object Cl) z [] .null → Exa Z h' a ad → Ovr Z kA Cl → Go C R q Z EL n0 Q T' pc' Ls (.ref a :: st)) : Go C R q Z EL n0 Q T pc Ls (.int z :: st) := by
  subst hk' hn'
  obtain ⟨-, rfl⟩ := id hi
  obtain ⟨⟨k0, locs, S, N, hS, hk⟩, -⟩ := id X
  obtain ⟨T', h', kA, S', e', E', A', F', O', st'⟩ := newRE S X.exec X.zw X.owned w1 w2 X.eT (g := mkF C.m pc Ls (.int z :: st)) rfl (X.dec hi) rfl hz hcap hbig hc hl had
  exact Go.of st' (g T' h' h.size kA (X.put S' N hS hk e' (CHr.ext E' X.chv) (X.old.ext E')) E' rfl X.n0le (Arv.new A' hz) F' O')
theorem On.castore (X : On C R own b ml rt nm q Z a0 EL n0 vm T h k n) {a : Addr} {kA : ClassId} {z j x y : Int32} {vs : List Value} {dv : Value} {i : Nat} (hi : Ins b pc .castore 1 pc') (V : Arv Z h a kA .char z vs dv) (hin : ¬ j < 0 ∧ j < z) (hj : j.toNatClampNeg = i) (hl : i < vs.length) (hy : nar .char x = y) (ga : n0 ≤ a)
    (g : ∀ T' h', On C R own b ml rt nm q Z a0 EL n0 vm T' h' k n → Wr h h' a i (.int y) → Arv Z h' a kA .char z (vs.set i (.int y)) dv → Go C R q Z EL n0 Q T' pc' Ls st) : Go C R q Z EL n0 Q T pc Ls (.int x :: .int j :: .ref a :: st) := by
  subst hy hj
  obtain ⟨-, rfl⟩ := id hi
  obtain ⟨⟨k0, locs, S, N, hS, hk⟩, -⟩ := id X
  have Sf : Safe Z EL vm h a := Safe.arv X.zw.alike V (by simp)
  obtain ⟨cl, A, V2, V3, V4, V5, V6⟩ := V
  obtain ⟨T', h', S', e', W', st'⟩ := stC S X.exec X.zw X.eT A (j := j) (inb_of V3 hin) (g := mkF C.m pc Ls (.int x :: .int j :: .ref a :: st)) rfl rfl (X.dec hi)
  exact Go.of st' (g T' h' (X.put S' (Fr.snoc S' N ga) hS hk e' (CHr.wr W' Sf X.chv) (X.old.wr W' ga)) W' (Arv.set A V2 V3 V4 V5 V6 (fits_nar_char _) W' _ rfl hl))
theorem On.bastore (X : On C R own b ml rt nm q Z a0 EL n0 vm T h k n) {a : Addr} {kA : ClassId} {z j x y : Int32} {vs : List Value} {dv : Value} {i : Nat} (hi : Ins b pc .bastore 1 pc') (V : Arv Z h a kA .byte z vs dv) (hin : ¬ j < 0 ∧ j < z) (hj : j.toNatClampNeg = i) (hl : i < vs.length) (hy : nar .byte x = y) (ga : n0 ≤ a) (Sf : Safe Z EL vm h a)
    (g : ∀ T' h', On C R own b ml rt nm q Z a0 EL n0 vm T' h' k n → Wr h h' a i (.int y) → Arv Z h' a kA .byte z (vs.set i (.int y)) dv → Go C R q Z EL n0 Q T' pc' Ls st) : Go C R q Z EL n0 Q T pc Ls (.int x :: .int j :: .ref a :: st) := by
  subst hy hj
  obtain ⟨-, rfl⟩ := id hi
  obtain ⟨⟨k0, locs, S, N, hS, hk⟩, -⟩ := id X
  obtain ⟨cl, A, V2, V3, V4, V5, V6⟩ := V
  obtain ⟨T', h', S', e', W', st'⟩ := stB S X.exec X.zw X.eT A (j := j) (inb_of V3 hin) (g := mkF C.m pc Ls (.int x :: .int j :: .ref a :: st)) rfl rfl (X.dec hi)
  exact Go.of st' (g T' h' (X.put S' (Fr.snoc S' N ga) hS hk e' (CHr.wr W' Sf X.chv) (X.old.wr W' ga)) W' (Arv.set A V2 V3 V4 V5 V6 (fits_nar_byte _) W' _ rfl hl))
theorem On.aastore (X : On C R own b ml rt nm q Z a0 EL n0 vm T h k n) {a : Addr} {kA : ClassId} {ty : FieldType} {z j : Int32} {v : Value} {vs : List Value} {dv : Value} {i : Nat} (hi : Ins b pc .aastore 1 pc') (V : Arv Z h a kA ty z vs dv) (hty : ty.isReference = true) (hin : ¬ j < 0 ∧ j < z) (hj : j.toNatClampNeg = i) (hl : i < vs.length) (hf : fits ty v = true) (F : Sto Z h a v) (ga : n0 ≤ a)
    (g : ∀ T' h', On C R own b ml rt nm q Z a0 EL n0 vm T' h' k n → Wr h h' a i v → Arv Z h' a kA ty z (vs.set i v) dv → Go C R q Z EL n0 Q T' pc' Ls st) : Go C R q Z EL n0 Q T pc Ls (v :: .int j :: .ref a :: st) := by
  subst hj
  obtain ⟨-, rfl⟩ := id hi
  obtain ⟨⟨k0, locs, S, N, hS, hk⟩, -⟩ := id X
  have Sf : Safe Z EL vm h a := Safe.arv X.zw.alike V (fun z => by subst z; simp [FieldType.isReference] at hty)
  obtain ⟨cl, A, V2, V3, V4, V5, V6⟩ := V
  obtain ⟨T', h', S', e', W', st'⟩ := stR S X.exec X.zw X.eT A (j := j) (inb_of V3 hin) hty F (g := mkF C.m pc Ls (v :: .int j :: .ref a :: st)) rfl rfl (X.dec hi)
  exact Go.of st' (g T' h' (X.put S' (Fr.snoc S' N ga) hS hk e' (CHr.wr W' Sf X.chv) (X.old.wr W' ga)) W' (Arv.set A V2 V3 V4 V5 V6 hf W' _ rfl hl))
theorem On.arraylength (X : On C R own b ml rt nm q Z a0 EL n0 vm T h k n) {a : Addr} {kA : ClassId} {ty : FieldType} {z : Int32} {vs : List Value} {dv : Value} (hi : Ins b pc .arraylength 1 pc') (V : Arv Z h a kA ty z vs dv)
    (g : Go C R q Z EL n0 Q T pc' Ls (.int z :: st)) : Go C R q Z EL n0 Q T pc Ls (.ref a :: st) := by
  obtain ⟨-, rfl⟩ := id hi
  obtain ⟨⟨k0, locs, S, N, hS, hk⟩, -⟩ := id X
  obtain ⟨cl, A, V2, V3, V4, V5, V6⟩ := V
  refine Go.of (fun t u => S.arraylength X.exec (by rw [X.eT]; exact A.1) (State.isArrayOf_alike X.zw.alike A.2.1) (g := mkF C.m pc Ls (.ref a :: st)) rfl rfl (X.dec hi) t ?_) g
  rw [len_of V3 V4]; exact u
theorem On.caload (X : On C R own b ml rt nm q Z a0 EL n0 vm T h k n) {a : Addr} {kA : ClassId} {z j : Int32} {vs : List Value} {dv v : Value} (hi : Ins b pc .caload 1 pc') (V : Arv Z h a kA .char z vs dv) (hin : ¬ j < 0 ∧ j < z) (hv : vs.getD j.toNatClampNeg dv = v)
    (g : Go C R q Z EL n0 Q T pc' Ls (v :: st)) : Go C R q Z EL n0 Q T pc Ls (.int j :: .ref a :: st) := by
  obtain ⟨-, rfl⟩ := id hi
  obtain ⟨⟨k0, locs, S, N, hS, hk⟩, -⟩ := id X
  obtain ⟨cl, A, V2, V3, V4, V5, V6⟩ := V
  exact Go.of (fun t u => S.caload X.exec (by rw [X.eT]; exact A.1) (State.isArrayOf_alike X.zw.alike A.2.1) A.2.2 (inb_of V3 hin) (V5.at (inb_of V3 hin) hv) (g := mkF C.m pc Ls (.int j :: .ref a :: st)) rfl rfl (X.dec hi) t u) g
theorem On.baload (X : On C R own b ml rt nm q Z a0 EL n0 vm T h k n) {a : Addr} {kA : ClassId} {z j : Int32} {vs : List Value} {dv v : Value} (hi : Ins b pc .baload 1 pc') (V : Arv Z h a kA .byte z vs dv) (hin : ¬ j < 0 ∧ j < z) (hv : vs.getD j.toNatClampNeg dv = v)
    (g : Go C R q Z EL n0 Q T pc' Ls (v :: st)) : Go C R q Z EL n0 Q T pc Ls (.int j :: .ref a :: st) := by
  obtain ⟨-, rfl⟩ := id hi
  obtain ⟨⟨k0, locs, S, N, hS, hk⟩, -⟩ := id X
  obtain ⟨cl, A, V2, V3, V4, V5, V6⟩ := V
  exact Go.of (fun t u => S.baloadBytes X.exec (by rw [X.eT]; exact A.1) (State.isArrayOf_alike X.zw.alike A.2.1) A.2.2 (inb_of V3 hin) (V5.at (inb_of V3 hin) hv) (g := mkF C.m pc Ls (.int j :: .ref a :: st)) rfl rfl (X.dec hi) t u) g
theorem On.aaload (X : On C R own b ml rt nm q Z a0 EL n0 vm T h k n) {a : Addr} {kA : ClassId} {ty : FieldType} {z j : Int32} {vs : List Value} {dv v : Value} (hi : Ins b pc .aaload 1 pc') (V : Arv Z h a kA ty z vs dv) (hty : ty.isReference = true) (hin : ¬ j < 0 ∧ j < z) (hv : vs.getD j.toNatClampNeg dv = v)
    (g : Go C R q Z EL n0 Q T pc' Ls (v :: st)) : Go C R q Z EL n0 Q T pc Ls (.int j :: .ref a :: st) := by
  obtain ⟨-, rfl⟩ := id hi
  obtain ⟨⟨k0, locs, S, N, hS, hk⟩, -⟩ := id X
  obtain ⟨cl, A, V2, V3, V4, V5, V6⟩ := V
  exact Go.of (fun t u => S.aaload X.exec (by rw [X.eT]; exact A.1) (State.isArrayOf_alike X.zw.alike A.2.1) hty A.2.2 (inb_of V3 hin) (V5.at (inb_of V3 hin) hv) (g := mkF C.m pc Ls (.int j :: .ref a :: st)) rfl rfl (X.dec hi) t u) g
theorem On.ldcI (X : On C R own b ml rt nm q Z a0 EL n0 vm T h k n) {ix : Nat} {v : Int32} (hi : Ins b pc (.ldc ix) 2 pc') (w : (Cond.constant own ix v).before a0 Z = true) (g : Go C R q Z EL n0 Q T pc' Ls (.int v :: st)) : Go C R q Z EL n0 Q T pc Ls st := by
  obtain ⟨-, rfl⟩ := id hi
  obtain ⟨⟨k0, locs, S, N, hS, hk⟩, -⟩ := id X
  exact Go.of (fun t u => S.ldcI X.exec X.owned (mv (s := C.s.setVm vm) X.zw w) (g := mkF C.m pc Ls st) rfl (X.dec hi) u) g
theorem On.ldc2J (X : On C R own b ml rt nm q Z a0 EL n0 vm T h k n) {ix : Nat} {v : Int64} (hi : Ins b pc (.ldc2_w ix) 3 pc') (w : (Cond.constantLong own ix v).before a0 Z = true) (g : Go C R q Z EL n0 Q T pc' Ls (.long v :: st)) : Go C R q Z EL n0 Q T pc Ls st := by
  obtain ⟨-, rfl⟩ := id hi
  obtain ⟨⟨k0, locs, S, N, hS, hk⟩, -⟩ := id X
  exact Go.of (fun t u => S.ldc2J X.exec X.owned (mv (s := C.s.setVm vm) X.zw w) (g := mkF C.m pc Ls st) rfl (X.dec hi) u) g
theorem On.checkcast (X : On C R own b ml rt nm q Z a0 EL n0 vm T h k n) {K : String} {ix : Nat} {a : Addr} (hi : Ins b pc (.checkcast ix) 3 pc') (w : (Cond.classLink own ix K).before a0 Z = true) (F : RoadKit.Ins Z h a K true)
    (g : ∀ T', On C R own b ml rt nm q Z a0 EL n0 vm T' h k n → Go C R q Z EL n0 Q T' pc' Ls (.ref a :: st)) : Go C R q Z EL n0 Q T pc Ls (.ref a :: st) := by
  obtain ⟨-, rfl⟩ := id hi
  obtain ⟨⟨k0, locs, S, N, hS, hk⟩, -⟩ := id X
  obtain ⟨T', S', e', st'⟩ := castY S X.exec X.zw X.owned w X.eT F (g := mkF C.m pc Ls (.ref a :: st)) rfl rfl (X.dec hi)
  exact Go.of st' (g T' (X.put S' N hS hk e' (CHr.refl X.chv) X.old))
theorem On.instY (X : On C R own b ml rt nm q Z a0 EL n0 vm T h k n) {K : String} {ix : Nat} {a : Addr} (hi : Ins b pc (.instanceof ix) 3 pc') (w : (Cond.classLink own ix K).before a0 Z = true) (F : RoadKit.Ins Z h a K true)
    (g : ∀ T', On C R own b ml rt nm q Z a0 EL n0 vm T' h k n → Go C R q Z EL n0 Q T' pc' Ls (.int 1 :: st)) : Go C R q Z EL n0 Q T pc Ls (.ref a :: st) := by
  obtain ⟨-, rfl⟩ := id hi
  obtain ⟨⟨k0, locs, S, N, hS, hk⟩, -⟩ := id X
  obtain ⟨T', S', e', st'⟩ := RoadKit.instY S X.exec X.zw X.owned w X.eT F (g := mkF C.m pc Ls (.ref a :: st)) rfl rfl (X.dec hi)
  exact Go.of st' (g T' (X.put S' N hS hk e' (CHr.refl X.chv) X.old))
theorem On.instNo (X : On C R own b ml rt nm q Z a0 EL n0 vm T h k n) {K Cl : String} {ix : Nat} {a : Addr} (hi : Ins b pc (.instanceof ix) 3 pc') (w : (Cond.classLink own ix K).before a0 Z = true) (E : Exa Z h a Cl) (F : ∃ c t, Z.vm.findClass Cl = some c ∧ Z.vm.findClass K = some t ∧ Z.vm.assignable c t = false)
    (g : ∀ T', On C R own b ml rt nm q Z a0 EL n0 vm T' h k n → Go C R q Z EL n0 Q T' pc' Ls (.int 0 :: st)) : Go C R q Z EL n0 Q T pc Ls (.ref a :: st) := by
  obtain ⟨-, rfl⟩ := id hi
  obtain ⟨⟨k0, locs, S, N, hS, hk⟩, -⟩ := id X
  obtain ⟨T', S', e', st'⟩ := RoadKit.instNo S X.exec X.zw X.owned w X.eT E F (g := mkF C.m pc Ls (.ref a :: st)) rfl rfl (X.dec hi)
  exact Go.of st' (g T' (X.put S' N hS hk e' (CHr.refl X.chv) X.old))
/-- Object.<init> -/
theorem On.initO (X : On C R own b ml rt nm q Z a0 EL n0 vm T h k n) {ix W : Nat} {a : Addr} (hi : Ins b pc (.invokespecial ix) 3 pc') (w1 : (Cond.methodLink own ix Lib.objectInit).before a0 Z = true) (w2 : (Cond.instanceMethod Lib.objectInit).before a0 Z = true) (w3 : (Cond.code Lib.objectInit ⟨#[0xb1]⟩ 1 none).before a0 Z = true)
    (hsz : Ls.size = ml) (hf : 1 ≤ R.frames) (hW : 0 + (st.map fun v => v.category).sum = W) (hl : W + 12 ≤ R.locals)
    (g : ∀ T', On C R own b ml rt nm q Z a0 EL n0 vm T' h k n → Go C R q Z EL n0 Q T' pc' Ls st) : Go C R q Z EL n0 Q T pc Ls (.ref a :: st) := by
  obtain ⟨-, rfl⟩ := id hi
  obtain ⟨⟨k0, locs, S, N, hS, hk⟩, -, -, -, hml, -⟩ := id X
  obtain ⟨T', S', e', st'⟩ := RoadKit.initO S X.exec X.zw X.owned w1 w2 w3 X.eT (g := mkF C.m pc Ls (.ref a :: st)) rfl (hsz.trans hml.symm) rfl (X.dec hi) hf (W := W) (Nat.le_of_eq hW) hl
  exact Go.of st' (g T' (X.put S' N hS hk e' (CHr.refl X.chv) X.old))
/-! ### the end -/
theorem On.leave (X : On C R own b ml rt nm q Z a0 EL n0 vm T h k n) {v : Option Value} (hv : rt = none → v = none) (hk : k ≤ R.cells) (hn : n ≤ R.slots) (hQ : Q v h) {Ls : Array Slot} {st : List Value}
    (f : ∀ locs fs, Stand C.p C.l C.e R (C.s.setVm vm) C.m C.args C.below C.meth C.c T locs k n → (∀ (f : JFrame) (acts : List Action), f.method = C.m → f.locked = none → f.entered = [] → (doReturn C.e (T.setTop f) acts v).1 = T.setFrames fs) → Steps C.p.tables C.e C.below (T.setTop (mkF C.m pc Ls st)) (T.setFrames fs)) :
    Go C R q Z EL n0 Q T pc Ls st := by
  obtain ⟨⟨k0, locs, S, N, hS, hk0⟩, eT, e2, e3, e4, e5, e6, e7, e8, e9, e10, e11, e12, e13⟩ := X
  subst eT
  obtain ⟨fs, h1, h2, h3, h4⟩ := S.leaveW hS hk0 (v := v) (fun z => hv (e5.symm.trans z)) e7
  obtain ⟨r1, r2, r3, r4⟩ := h4
  have r5 : C.s.sameButNew { T.setFrames fs with vm := C.s.vm } locs R.cells R.slots := r4.mono hk hn
  refine ⟨T.setFrames fs, .returned v, f locs fs S h1, h2, h3, v, locs, rfl, ⟨hQ, N, e13⟩, e11.trans (show CHr Z EL vm T.heap T.vm T.heap from CHv.at S e8 e10 e11.1), ⟨r1, r2, r3, r5⟩, fun hq => ⟨r1, ?_, r5⟩⟩
  exact State.WarmedH.trans (t := C.s.setVm vm) (e12 hq) S.warmed
theorem On.ret (X : On C R own b ml rt nm q Z a0 EL n0 vm T h k n) (hi : Ins b pc .return_ 1 pc') (hr : rt = none) (hk : k ≤ R.cells) (hn : n ≤ R.slots) (hQ : Q none h) : Go C R q Z EL n0 Q T pc Ls [] :=
  X.leave (v := none) (fun _ => rfl) hk hn hQ fun locs fs S hl => S.returnOut X.exec (X.2.2.2.2.2.1.trans hr) (X.dec hi) hl
theorem On.ireturn (X : On C R own b ml rt nm q Z a0 EL n0 vm T h k n) {t : FieldType} {z : Int32} (hi : Ins b pc .ireturn 1 pc') (hr : rt = some t) (ht : t = .int ∨ t = .boolean ∨ t = .byte ∨ t = .char ∨ t = .short) (hz : narrow t (.int z) = .int z) (hk : k ≤ R.cells) (hn : n ≤ R.slots) (hQ : Q (some (.int z)) h) : Go C R q Z EL n0 Q T pc Ls (.int z :: st) :=
  X.leave (v := some (.int z)) (fun y => by rw [hr] at y; cases y) hk hn hQ fun locs fs S hl => retOut S X.exec (X.2.2.2.2.2.1.trans hr) hz (Or.inl ⟨rfl, ht, z, rfl⟩) (X.dec hi) hl
theorem On.lreturn (X : On C R own b ml rt nm q Z a0 EL n0 vm T h k n) {z : Int64} (hi : Ins b pc .lreturn 1 pc') (hr : rt = some .long) (hk : k ≤ R.cells) (hn : n ≤ R.slots) (hQ : Q (some (.long z)) h) : Go C R q Z EL n0 Q T pc Ls (.long z :: st) :=
  X.leave (v := some (.long z)) (fun y => by rw [hr] at y; cases y) hk hn hQ fun locs fs S hl => retOut S X.exec (X.2.2.2.2.2.1.trans hr) rfl (Or.inr (Or.inl ⟨rfl, rfl, z, rfl⟩)) (X.dec hi) hl
theorem On.areturn (X : On C R own b ml rt nm q Z a0 EL n0 vm T h k n) {t : FieldType} {v : Value} (hi : Ins b pc .areturn 1 pc') (hr : rt = some t) (ht : t.isReference = true) (hv : v.isRef = true) (hk : k ≤ R.cells) (hn : n ≤ R.slots) (hQ : Q (some v) h) : Go C R q Z EL n0 Q T pc Ls (v :: st) :=
  X.leave (v := some v) (fun y => by rw [hr] at y; cases y) hk hn hQ fun locs fs S hl => retOut S X.exec (X.2.2.2.2.2.1.trans hr) (by cases t <;> cases v <;> first | rfl | simp [FieldType.isReference] at ht | simp [Value.isRef] at hv) (Or.inr (Or.inr (Or.inr (Or.inr ⟨rfl, ht, hv⟩)))) (X.dec hi) hl
end Heap
end Jvm.Own
namespace Jvm.Own
open Jvm Jvm.ClassFile Sem Op Lib Jvm.Free Jvm.Stand Jvm.LawKit Jvm.RoadKit Bundle
/-! ### contracts and calls -/
/-- the contract of a body, at a heap and for arguments: ws are the String and byte[] cells that it may write -/
def Con (wl : List Jvm.Cond) (q : Bool) (l : Launch) (Z : State) (EL : List (String × Nat)) (n0 : Nat) (ws : List Addr) (y : MethodName) (bytes : ByteArray) (maxL : Nat) (ret : Option FieldType) (rm : Room) (as' : Array Value) (h : Heap) (Q : Option Value → Heap → Prop) : Prop :=
  MetFree l y (head1 (Cond.code y bytes maxL ret :: wl) rm) (fun a U => a = as' ∧ Z.Warmed39 U.vm ∧ U.heap = h ∧ CHv Z EL U.vm h ∧ ∀ x ∈ ws, Safe Z EL U.vm h x) (fun _ _ _ _ _ => True)
    (fun _ U o U' => ∃ v L, o = .returned v ∧ (Q v U'.heap ∧ Fr n0 L ∧ Old Z n0 U'.heap) ∧ CHr Z EL U.vm U.heap U'.vm U'.heap ∧ EndQ q U o U' L rm.cells rm.slots)
theorem Con.intro {wl : List Jvm.Cond} {q : Bool} {l : Launch} {Z : State} {a0 : Array Value} {EL : List (String × Nat)} {n0 : Nat} {ws : List Addr} {y : MethodName} {bytes : ByteArray} {maxL : Nat} {ret : Option FieldType} {rm : Room} {as' : Array Value} {h : Heap} {Q : Option Value → Heap → Prop} {Ls : Array Slot}
    (hp : plainFor y = true) (hEL : EW Z a0 EL) (hO : Old Z n0 h) (ef : ∀ m, entryFrame m as' maxL = mkF m 0 Ls [])
    (body : ∀ (C : Cx) (vm : Vm) (T : State), C.l = l → On C rm y.cls bytes maxL ret y.name q Z a0 EL n0 vm T h 0 0 → (∀ x ∈ ws, Safe Z EL vm h x) → Go C rm q Z EL n0 Q T 0 Ls []) : Con wl q l Z EL n0 ws y bytes maxL ret rm as' h Q := by
  refine MetFree.of_bodySF hp hisR ?_
  intro p e s m args below meth c s₁ Bd hml0 hP hK
  obtain ⟨rfl, hZ, rfl, hC, hw⟩ := hP
  have e0 : s₁.heap = s.heap := by rw [Bd.state]; rfl
  have S0 : Stand p l e rm s m args below meth c s₁ [] 0 0 := Stand.of_body Bd
  have g := body (p, l, e, s, m, args, below, meth, c) s.vm s₁ rfl ⟨⟨0, [], S0, Fr.nil n0, (State.WarmedH.refl s).since 0, Nat.zero_le _⟩, e0, Bd.exec, Bd.bytes, hml0, Bd.returns, (name_of_methodNamed Bd.named Bd.method).1, Bd.notSynchronized, hZ, findClass_of_methodNamed Bd.named, hEL, CHr.refl hC, fun _ => State.WarmedH.refl s, hO⟩ hw
  obtain ⟨s2, o, g1, g2, g3, v, L, g4, g5, g6, g7⟩ := g
  refine ⟨s2, o, castTop (ef m) g1, g2, g3, v, L, g4, g5, g6, g7⟩
theorem backQ {q : Bool} {l : Launch} {Z : State} {a0 : Array Value} {EL : List (String × Nat)} {n0 : Nat} {ws : List Addr} {y : MethodName} {bytes : ByteArray} {maxL : Nat} {ret : Option FieldType} {rm R : Room} {as' : Array Value} {h : Heap} {Q : Option Value → Heap → Prop} {p : Program} {e : Env} {below : List Frame} {s : State} {args : Array Value} {vm : Vm} {len W : Nat}
    (hM : Con [] q l Z EL n0 ws y bytes maxL ret rm as' h Q) (hZ : Z.Warmed39 vm) (wc : (Cond.code y bytes maxL ret).before a0 Z = true) (wz : (Cond.initialized y.cls).before a0 Z = true) (hf : rm.frames + 1 ≤ R.frames) (hl : W + (maxL + 11) + rm.locals ≤ R.locals) (hEL : EW Z a0 EL) (H : CHv Z EL vm h) (hs : ∀ x ∈ ws, Safe Z EL vm h x ∧ x < h.size) :
    BackS l R p e below (s.setVm vm) args y len W (fun A a => a = as' ∧ A.U.heap = h ∧ A.cells + rm.cells ≤ R.cells ∧ A.slots + rm.slots ≤ R.slots)
      (fun A _ v B => ∃ L, (Q v B.U.heap ∧ Fr n0 L ∧ Old Z n0 B.U.heap) ∧ B.locs = A.locs ++ L ∧ B.cells = A.cells + rm.cells ∧ B.slots = A.slots + rm.slots ∧ CHr Z EL vm h B.U.vm B.U.heap ∧ (q = true → (s.setVm vm).WarmedH B.U.vm)) :=
  BackS.of_freeW (bytes := bytes) (maxL := maxL) (ret := ret) (E := fun _ first o t L k n => k = rm.cells ∧ n = rm.slots ∧ (∃ v, o = .returned v ∧ (Q v t.heap ∧ Fr n0 L ∧ Old Z n0 t.heap)) ∧ CHr Z EL first.vm first.heap t.vm t.heap ∧ (q = true → first.WarmedH t.vm)) hM hf hl
    (fun m meth c A a Y hp => have hU : Z.Warmed39 A.U.vm := wtrans (s := s.setVm vm) hZ Y.warmed
      ⟨by show (Cond.and _ .tt).before a A.U = true; rw [Cond.before_and, mv hU wc]; rfl, mv hU wc, mv hU wz, hp.2.2.1, hp.2.2.2⟩)
    (fun m meth c A a g mk Y hp => ⟨hp.1, wtrans (s := s.setVm vm) hZ Y.warmed, hp.2.1, (CHv.at Y hZ hEL H).1, fun x hx => (CHv.at Y hZ hEL H).safe (hs x hx).2 (hs x hx).1⟩) (fun _ _ _ _ _ _ _ _ _ => trivial)
    (fun _ _ _ _ ⟨v, L, h1, h2, h3, h4⟩ => ⟨L, _, _, h4.1, rfl, rfl, ⟨v, h1, h2⟩, h3, fun hq => (h4.2 hq).2.1⟩)
    (fun m meth c A a g mk v t L k n Y hp _ _ ⟨e1, e2, ⟨v', e3, e4⟩, e5, e6⟩ => by
      cases e3; subst e1 e2
      refine ⟨L, e4, rfl, rfl, rfl, (CHv.at Y hZ hEL H).trans ?_, fun hq => State.WarmedH.trans (t := A.U) Y.warmed (e6 hq)⟩
      rw [← hp.2.1]; exact e5)
section Calls
variable {C : Cx} {R : Room} {own : String} {b : ByteArray} {ml : Nat} {rt : Option FieldType} {nm : String} {q : Bool} {Z : State} {a0 : Array Value} {EL : List (String × Nat)} {n0 : Nat} {vm : Vm} {T : State} {h : Heap} {k n : Nat} {Q : Option Value → Heap → Prop} {pc pc' pt : Nat} {Ls Ls' : Array Slot} {st : List Value}
/-- behind a call: where the walk stands -/
theorem On.after (X : On C R own b ml rt nm q Z a0 EL n0 vm T h k n) {B : Pt} {rm : Room} {Q' : Heap → Prop} {k' n' k0 : Nat} {locs : List Loc} (N : Fr n0 locs) (hS : C.s.Since vm k0) (hk : k0 ≤ h.size)
    (S' : Stand C.p C.l C.e R ((C.s.setVm vm).setVm B.U.vm) C.m C.args C.below C.meth C.c B.U B.locs B.cells B.slots) (hs : (C.s.setVm vm).Since B.U.vm B.U.heap.size) (hg : T.heap.size ≤ B.U.heap.size)
    (hp : ∃ L, (Q' B.U.heap ∧ Fr n0 L ∧ Old Z n0 B.U.heap) ∧ B.locs = locs ++ L ∧ B.cells = k + rm.cells ∧ B.slots = n + rm.slots ∧ CHr Z EL vm h B.U.vm B.U.heap ∧ (q = true → (C.s.setVm vm).WarmedH B.U.vm)) (hk' : k + rm.cells = k') (hn' : n + rm.slots = n') :
    On C R own b ml rt nm q Z a0 EL n0 B.U.vm B.U B.U.heap k' n' ∧ CHr Z EL vm h B.U.vm B.U.heap ∧ Q' B.U.heap := by
  obtain ⟨-, e1, e2, e3, e4, e5, e6, e7, e8, e9, e10, e11, e12, e13⟩ := X
  obtain ⟨L, ⟨r1, r2, r8⟩, r3, r4, r5, r6, r7⟩ := hp
  subst hk' hn'
  rw [r3, r4, r5] at S'
  rw [e1] at hg
  exact ⟨⟨⟨_, _, S', N.app r2, hS.trans hs (Nat.le_trans hk hg), Nat.le_refl _⟩, rfl, e2, e3, e4, e5, e6, e7, State.Warmed39.trans (t := C.s.setVm vm) e8 hs.1, by rw [hs.1.alike.findClass]; exact e9, e10, e11.trans r6, fun hq => State.WarmedH.trans (t := C.s.setVm vm) (e12 hq) (r7 hq), r8⟩, r6, r1⟩
theorem On.callS (X : On C R own b ml rt nm q Z a0 EL n0 vm T h k n) {l : Launch} (hl0 : C.l = l) {ix W k' n' : Nat} {y : MethodName} {bytes : ByteArray} {maxL : Nat} {ret r : Option FieldType} {ps : List FieldType} {rm : Room} {Q' : Option Value → Heap → Prop} {ws : List Addr} {argsL sta : List Value} (hi : Ins b pc (.invokestatic ix) 3 pc')
    (hM : Con [] q l Z EL n0 ws y bytes maxL ret rm argsL.toArray h Q') (w1 : (Cond.methodLink own ix y).before a0 Z = true) (w2 : (Cond.static y).before a0 Z = true) (w3 : (Cond.initialized y.cls).before a0 Z = true) (w4 : (Cond.code y bytes maxL ret).before a0 Z = true) (hy : y.cls ≠ "java/lang/invoke/MethodHandle" ∧ y.cls ≠ "java/lang/invoke/VarHandle")
    (hs : ∀ x ∈ ws, Safe Z EL vm h x ∧ x < h.size) (hd : parseMethodDescriptor y.desc = some ⟨ps, r⟩) (hn : argsL.length = ps.length) (hst : sta = argsL.reverse ++ st) (hsz : Ls.size = ml) (hW : 0 + (st.map fun v => v.category).sum = W) (hf : rm.frames + 1 ≤ R.frames) (hl : W + (maxL + 11) + rm.locals ≤ R.locals)
    (hk' : k + rm.cells = k') (hn' : n + rm.slots = n') (hc : k' ≤ R.cells) (hsl : n' ≤ R.slots)
    (g : ∀ vm' T' h' v, On C R own b ml rt nm q Z a0 EL n0 vm' T' h' k' n' → CHr Z EL vm h vm' h' → Q' v h' → Go C R q Z EL n0 Q T' pc' Ls (v.toList ++ st)) : Go C R q Z EL n0 Q T pc Ls sta := by
  subst hl0 hst
  obtain ⟨-, rfl⟩ := id hi
  obtain ⟨⟨k0, locs, S, N, hS, hk⟩, -, -, -, hml, -⟩ := id X
  obtain ⟨v, vm1, B, -, S', s1, s2, hp, stp⟩ := callSS S X.exec (y := y) X.owned (mv (s := C.s.setVm vm) X.zw w1) (mv (s := C.s.setVm vm) X.zw w2) (mv (s := C.s.setVm vm) X.zw w3) (mv (s := C.s.setVm vm) X.zw w4) hy (backQ (W := W) hM X.zw w4 w3 hf hl X.ew X.chv hs) (g := mkF C.m pc Ls (argsL.reverse ++ st)) rfl (hsz.trans hml.symm) (argsL := argsL) (rest := st) (lenOf hd hn) rfl (by show 2 * 0 + _ ≤ _; omega) (X.dec hi)
    (fun _ _ => ⟨rfl, X.eT, hk' ▸ hc, hn' ▸ hsl⟩)
  obtain ⟨X', r1, r2⟩ := X.after (Q' := Q' v) N hS hk S' s1 s2 hp hk' hn'
  exact Go.of (fun t u => stp.trans u) (g _ _ _ v X' r1 r2)
theorem On.callI (X : On C R own b ml rt nm q Z a0 EL n0 vm T h k n) {l : Launch} (hl0 : C.l = l) {ix W k' n' : Nat} {y : MethodName} {bytes : ByteArray} {maxL : Nat} {r : Option FieldType} {ps : List FieldType} {rm : Room} {Q' : Option Value → Heap → Prop} {ws : List Addr} {a : Addr} {argsL sta : List Value} (hi : Ins b pc (.invokespecial ix) 3 pc')
    (hM : Con [] q l Z EL n0 ws y bytes maxL none rm (.ref a :: argsL).toArray h Q') (w1 : (Cond.methodLink own ix y).before a0 Z = true) (w2 : (Cond.instanceMethod y).before a0 Z = true) (w3 : (Cond.initialized y.cls).before a0 Z = true) (w4 : (Cond.code y bytes maxL none).before a0 Z = true) (hy1 : y.name = "<init>") (hy : y.cls ≠ "java/lang/invoke/MethodHandle" ∧ y.cls ≠ "java/lang/invoke/VarHandle")
    (hs : ∀ x ∈ ws, Safe Z EL vm h x ∧ x < h.size) (hd : parseMethodDescriptor y.desc = some ⟨ps, r⟩) (hn : argsL.length = ps.length) (hst : sta = argsL.reverse ++ .ref a :: st) (hsz : Ls.size = ml) (hW : 0 + (st.map fun v => v.category).sum = W) (hf : rm.frames + 1 ≤ R.frames) (hl : W + (maxL + 11) + rm.locals ≤ R.locals)
    (hk' : k + rm.cells = k') (hn' : n + rm.slots = n') (hc : k' ≤ R.cells) (hsl : n' ≤ R.slots)
    (g : ∀ vm' T' h' v, On C R own b ml rt nm q Z a0 EL n0 vm' T' h' k' n' → CHr Z EL vm h vm' h' → Q' v h' → Go C R q Z EL n0 Q T' pc' Ls (v.toList ++ st)) : Go C R q Z EL n0 Q T pc Ls sta := by
  subst hl0 hst
  obtain ⟨-, rfl⟩ := id hi
  obtain ⟨⟨k0, locs, S, N, hS, hk⟩, -, -, -, hml, -⟩ := id X
  obtain ⟨v, vm1, B, -, S', s1, s2, hp, stp⟩ := S.specialBackS X.exec (y := y) hy1 X.owned (mv (s := C.s.setVm vm) X.zw w1) (mv (s := C.s.setVm vm) X.zw w2) (mv (s := C.s.setVm vm) X.zw w4) hy (backQ (W := W) hM X.zw w4 w3 hf hl X.ew X.chv hs) (g := mkF C.m pc Ls (argsL.reverse ++ .ref a :: st)) rfl (hsz.trans hml.symm) (Steps.refl _) (a := a) (argsL := argsL) (rest := st) (lenOf hd hn) rfl (by show 2 * 0 + _ ≤ _; omega) (X.dec hi)
    (fun _ _ => ⟨rfl, X.eT, hk' ▸ hc, hn' ▸ hsl⟩)
  obtain ⟨X', r1, r2⟩ := X.after (Q' := Q' v) N hS hk S' s1 s2 hp hk' hn'
  exact Go.of (fun t u => stp.trans u) (g _ _ _ v X' r1 r2)
/-- an instance method: y as the entry names it, z as the receiver's class Cl selects it -/
theorem On.callV (X : On C R own b ml rt nm q Z a0 EL n0 vm T h k n) {l : Launch} (hl0 : C.l = l) {ix W k' n' : Nat} {y z : MethodName} {Cl : String} {bytes : ByteArray} {maxL : Nat} {ret r : Option FieldType} {ps : List FieldType} {rm : Room} {Q' : Option Value → Heap → Prop} {ws : List Addr} {a : Addr} {argsL sta : List Value} (hi : Ins b pc (.invokevirtual ix) 3 pc')
    (hM : Con [] q l Z EL n0 ws z bytes maxL ret rm (.ref a :: argsL).toArray h Q') (E : Exa Z h a Cl) (w1 : (Cond.methodLink own ix y).before a0 Z = true) (w2 : (Cond.declares y).before a0 Z = true) (w5 : (Cond.selects Cl y z).before a0 Z = true) (hnf : NotFace (C.s.setVm vm) y) (w6 : (Cond.instanceMethod z).before a0 Z = true) (w3 : (Cond.initialized z.cls).before a0 Z = true) (w4 : (Cond.code z bytes maxL ret).before a0 Z = true) (hy : y.cls ≠ "java/lang/invoke/MethodHandle" ∧ y.cls ≠ "java/lang/invoke/VarHandle")
    (hs : ∀ x ∈ ws, Safe Z EL vm h x ∧ x < h.size) (hd : parseMethodDescriptor y.desc = some ⟨ps, r⟩) (hn : argsL.length = ps.length) (hst : sta = argsL.reverse ++ .ref a :: st) (hsz : Ls.size = ml) (hW : 0 + (st.map fun v => v.category).sum = W) (hf : rm.frames + 1 ≤ R.frames) (hl : W + (maxL + 11) + rm.locals ≤ R.locals)
    (hk' : k + rm.cells = k') (hn' : n + rm.slots = n') (hc : k' ≤ R.cells) (hsl : n' ≤ R.slots)
    (g : ∀ vm' T' h' v, On C R own b ml rt nm q Z a0 EL n0 vm' T' h' k' n' → CHr Z EL vm h vm' h' → Q' v h' → Go C R q Z EL n0 Q T' pc' Ls (v.toList ++ st)) : Go C R q Z EL n0 Q T pc Ls sta := by
  subst hl0 hst
  obtain ⟨-, rfl⟩ := id hi
  obtain ⟨⟨k0, locs, S, N, hS, hk⟩, -, -, -, hml, -⟩ := id X
  obtain ⟨cB, kB, q1, q2, q3⟩ := isOf (s := C.s.setVm vm) X.zw X.eT E
  obtain ⟨v, vm1, B, -, S', s1, s2, hp, stp⟩ := S.virtualBackS X.exec (y := y) (z := z) X.owned (mv (s := C.s.setVm vm) X.zw w1) (mv (s := C.s.setVm vm) X.zw w2) hnf (mv (s := C.s.setVm vm) X.zw w5) (mv (s := C.s.setVm vm) X.zw w6) hy (backQ (W := W) hM X.zw w4 w3 hf hl X.ew X.chv hs) q1 q3 (g := mkF C.m pc Ls (argsL.reverse ++ .ref a :: st)) rfl (hsz.trans hml.symm) (Steps.refl _) (argsL := argsL) (rest := st) (lenOf hd hn) rfl (by show 2 * 0 + _ ≤ _; omega) (X.dec hi)
    (fun _ _ => ⟨rfl, X.eT, hk' ▸ hc, hn' ▸ hsl⟩)
  obtain ⟨X', r1, r2⟩ := X.after (Q' := Q' v) N hS hk S' s1 s2 hp hk' hn'
  exact Go.of (fun t u => stp.trans u) (g _ _ _ v X' r1 r2)
theorem nfSel {s : State} {Cl : String} {y : MethodName} (hZ : Z.Warmed39 vm) (w : (Cond.selects Cl y y).before a0 Z = true) : NotFace (s.setVm vm) y := notFace_of_selects (args := #[]) (mv (s := s.setVm vm) hZ w)
end Calls
end Jvm.Own
namespace Jvm.Own
open Jvm Jvm.ClassFile Sem Op Lib Jvm.Free Jvm.Stand Jvm.LawKit Jvm.RoadKit Bundle
/-! ### calls that a Back pays, and Strings -/
section Backs
variable {C : Cx} {R : Room} {own : String} {b : ByteArray} {ml : Nat} {rt : Option FieldType} {nm : String} {q : Bool} {Z : State} {a0 : Array Value} {EL : List (String × Nat)} {n0 : Nat} {vm : Vm} {T : State} {h : Heap} {k n : Nat} {Q : Option Value → Heap → Prop} {pc pc' pt : Nat} {Ls Ls' : Array Slot} {st : List Value}
theorem On.backI (X : On C R own b ml rt nm q Z a0 EL n0 vm T h k n) {ix W k' n' kc ks : Nat} {y : MethodName} {bytes : ByteArray} {maxL : Nat} {r : Option FieldType} {ps : List FieldType} {QQ : Option Value → Heap → List Loc → Prop} {a : Addr} {argsL sta : List Value} (hi : Ins b pc (.invokespecial ix) 3 pc')
    (hK : Back C.l R C.p C.e C.below (C.s.setVm vm) C.args y 3 W (fun P a' => a' = (.ref a :: argsL).toArray ∧ P.U.heap = h ∧ P.cells + kc ≤ R.cells ∧ P.slots + ks ≤ R.slots) (fun P _ v B => ∃ L, QQ v B.U.heap L ∧ B.locs = P.locs ++ L ∧ B.cells = P.cells + kc ∧ B.slots = P.slots + ks))
    (hQ : ∀ v h' L, QQ v h' L → Fr n0 L ∧ CHr Z EL vm h vm h' ∧ Old Z n0 h') (w1 : (Cond.methodLink own ix y).before a0 Z = true) (w2 : (Cond.instanceMethod y).before a0 Z = true) (w4 : (Cond.code y bytes maxL none).before a0 Z = true) (hy1 : y.name = "<init>") (hy : y.cls ≠ "java/lang/invoke/MethodHandle" ∧ y.cls ≠ "java/lang/invoke/VarHandle")
    (hd : parseMethodDescriptor y.desc = some ⟨ps, r⟩) (hn : argsL.length = ps.length) (hst : sta = argsL.reverse ++ .ref a :: st) (hsz : Ls.size = ml) (hW : 0 + (st.map fun v => v.category).sum = W)
    (hk' : k + kc = k') (hn' : n + ks = n') (hc : k' ≤ R.cells) (hsl : n' ≤ R.slots)
    (g : ∀ T' h' v L, On C R own b ml rt nm q Z a0 EL n0 vm T' h' k' n' → QQ v h' L → Go C R q Z EL n0 Q T' pc' Ls (v.toList ++ st)) : Go C R q Z EL n0 Q T pc Ls sta := by
  subst hst hk' hn'
  obtain ⟨-, rfl⟩ := id hi
  obtain ⟨⟨k0, locs, S, N, hS, hk⟩, -, -, -, hml, -⟩ := id X
  obtain ⟨v, vm1, B, -, S', hp, stp⟩ := S.specialBack X.exec (y := y) hy1 X.owned (mv (s := C.s.setVm vm) X.zw w1) (mv (s := C.s.setVm vm) X.zw w2) (mv (s := C.s.setVm vm) X.zw w4) hy hK (g := mkF C.m pc Ls (argsL.reverse ++ .ref a :: st)) rfl (hsz.trans hml.symm) (Steps.refl _) (a := a) (argsL := argsL) (rest := st) (lenOf hd hn) rfl (by show 2 * 0 + _ ≤ _; omega) (X.dec hi)
    (fun _ _ => ⟨rfl, X.eT, hc, hsl⟩)
  obtain ⟨L, r1, r2, r3, r4⟩ := hp
  rw [r2, r3, r4] at S'
  obtain ⟨f1, f2, f3⟩ := hQ v _ L r1
  exact Go.of (fun t u => stp.trans u) (g _ _ v L (X.put S' (N.app f1) hS hk rfl f2 f3) r1)
theorem On.backVt (X : On C R own b ml rt nm q Z a0 EL n0 vm T h k n) {ix W k' n' kc ks : Nat} {y z : MethodName} {Cl : String} {r : Option FieldType} {ps : List FieldType} {QQ : Option Value → Heap → List Loc → Prop} {a : Addr} {argsL sta : List Value} (hi : Ins b pc (.invokevirtual ix) 3 pc')
    (hK : Back C.l R C.p C.e C.below (C.s.setVm vm) C.args z 3 W (fun P a' => a' = (.ref a :: argsL).toArray ∧ P.U.heap = h ∧ P.cells + kc ≤ R.cells ∧ P.slots + ks ≤ R.slots) (fun P _ v B => ∃ L, QQ v B.U.heap L ∧ B.locs = P.locs ++ L ∧ B.cells = P.cells + kc ∧ B.slots = P.slots + ks))
    (hQ : ∀ v h' L, QQ v h' L → Fr n0 L ∧ CHr Z EL vm h vm h' ∧ Old Z n0 h') (E : Exa Z h a Cl) (w1 : (Cond.methodLink own ix y).before a0 Z = true) (w2 : (Cond.declares y).before a0 Z = true) (w5 : (Cond.selects Cl y z).before a0 Z = true) (hnf : NotFace (C.s.setVm vm) y) (w6 : (Cond.instanceMethod z).before a0 Z = true) (hy : y.cls ≠ "java/lang/invoke/MethodHandle" ∧ y.cls ≠ "java/lang/invoke/VarHandle")
    (hd : parseMethodDescriptor y.desc = some ⟨ps, r⟩) (hn : argsL.length = ps.length) (hst : sta = argsL.reverse ++ .ref a :: st) (hsz : Ls.size = ml) (hW : 0 + (st.map fun v => v.category).sum = W)
    (hk' : k + kc = k') (hn' : n + ks = n') (hc : k' ≤ R.cells) (hsl : n' ≤ R.slots)
    (g : ∀ T' h' v L, On C R own b ml rt nm q Z a0 EL n0 vm T' h' k' n' → QQ v h' L → Go C R q Z EL n0 Q T' pc' Ls (v.toList ++ st)) : Go C R q Z EL n0 Q T pc Ls sta := by
  subst hst hk' hn'
  obtain ⟨-, rfl⟩ := id hi
  obtain ⟨⟨k0, locs, S, N, hS, hk⟩, -, -, -, hml, -⟩ := id X
  obtain ⟨cB, kB, q1, q2, q3⟩ := isOf (s := C.s.setVm vm) X.zw X.eT E
  obtain ⟨v, vm1, B, -, S', hp, stp⟩ := S.virtualBack X.exec (y := y) (z := z) X.owned (mv (s := C.s.setVm vm) X.zw w1) (mv (s := C.s.setVm vm) X.zw w2) hnf (mv (s := C.s.setVm vm) X.zw w5) (mv (s := C.s.setVm vm) X.zw w6) hy hK q1 q3 (g := mkF C.m pc Ls (argsL.reverse ++ .ref a :: st)) rfl (hsz.trans hml.symm) (Steps.refl _) (argsL := argsL) (rest := st) (lenOf hd hn) rfl (by show 2 * 0 + _ ≤ _; omega) (X.dec hi)
    (fun _ _ => ⟨rfl, X.eT, hc, hsl⟩)
  obtain ⟨L, r1, r2, r3, r4⟩ := hp
  rw [r2, r3, r4] at S'
  obtain ⟨f1, f2, f3⟩ := hQ v _ L r1
  exact Go.of (fun t u => stp.trans u) (g _ _ v L (X.put S' (N.app f1) hS hk rfl f2 f3) r1)
end Backs
/-- a Latin-1 String and its byte[] -/
def Str (Z : State) (h : Heap) (x t : Addr) (kb : ClassId) (cs : List Int32) : Prop :=
  Exa Z h x "java/lang/String" ∧ Fld Z h x "java/lang/String" "value" "[B" (.ref t) ∧ Fld Z h x "java/lang/String" "coder" "B" (.int 0) ∧ Arv Z h t kb .byte (Int32.ofNat cs.length) (cs.map fun c => Value.int c.toInt8.toInt32) (.int 0) ∧ ∀ c ∈ cs, ¬ c < 0 ∧ ¬ (255 : Int32) < c
section Strs
variable {Z : State} {h h' : Heap} {x t a : Addr} {kb : ClassId} {cs : List Int32} {ws : List Addr} {sl : Nat} {v : Value}
theorem Str.ext (F : Str Z h x t kb cs) (E : Ext h h') : Str Z h' x t kb cs := ⟨F.1.ext E, F.2.1.ext E, F.2.2.1.ext E, F.2.2.2.1.ext E, F.2.2.2.2⟩
theorem Str.keep (F : Str Z h x t kb cs) (K : Keep h h' ws) (hx : x ∉ ws) (ht : t ∉ ws) : Str Z h' x t kb cs := ⟨F.1.keep K, F.2.1.keep K hx, F.2.2.1.keep K hx, F.2.2.2.1.keep K ht, F.2.2.2.2⟩
theorem Str.wr (F : Str Z h x t kb cs) (W : Wr h h' a sl v) (hx : x ≠ a) (ht : t ≠ a) : Str Z h' x t kb cs := ⟨F.1.wr W, F.2.1.other W (Or.inl hx), F.2.2.1.other W (Or.inl hx), F.2.2.2.1.other W ht, F.2.2.2.2⟩
theorem Str.lt (F : Str Z h x t kb cs) : x < h.size := F.1.lt
theorem Str.ltT (F : Str Z h x t kb cs) : t < h.size := F.2.2.2.1.lt
theorem own_all0 : ∀ c ∈ ([] : List Int32), ¬ c < 0 ∧ ¬ (255 : Int32) < c := fun _ z => nomatch z
theorem own_allS {c : Int32} {l : List Int32} (p : ¬ c < 0 ∧ ¬ (255 : Int32) < c) (r : ∀ x ∈ l, ¬ x < 0 ∧ ¬ (255 : Int32) < x) : ∀ x ∈ c :: l, ¬ x < 0 ∧ ¬ (255 : Int32) < x := fun x hx => (List.mem_cons.mp hx).elim (fun e => e ▸ p) (r x)
theorem own_and255 (x : Int32) : ¬ (x &&& (255 : Int32)) < 0 ∧ ¬ (255 : Int32) < (x &&& (255 : Int32)) := by
  have q := c_and x 255 (by decide)
  have e : (255 : Int32).toInt = 255 := by decide
  have e0 : (0 : Int32).toInt = 0 := by decide
  rw [e] at q
  constructor
  · intro z; have := Int32.lt_iff_toInt_lt.mp z; omega
  · intro z; have := Int32.lt_iff_toInt_lt.mp z; omega
theorem sf_nil {EL : List (String × Nat)} {vm : Vm} : ∀ x ∈ ([] : List Addr), Safe Z EL vm h x ∧ x < h.size := fun _ z => nomatch z
theorem sf_cons {EL : List (String × Nat)} {vm : Vm} {l : List Addr} (p : Safe Z EL vm h x ∧ x < h.size) (r : ∀ x ∈ l, Safe Z EL vm h x ∧ x < h.size) : ∀ y ∈ x :: l, Safe Z EL vm h y ∧ y < h.size := fun y hy => (List.mem_cons.mp hy).elim (fun e => e ▸ p) (r y)
theorem up16 {c : Int32} (hc : ¬ c < 0 ∧ ¬ (255 : Int32) < c) : ¬ c < 0 ∧ ¬ (65535 : Int32) < c := ⟨hc.1, fun z => hc.2 (Int32.lt_trans (by decide) z)⟩
end Strs
end Jvm.Own
namespace Jvm.Own
open Jvm Jvm.ClassFile Sem Op Lib Jvm.Free Jvm.Stand Jvm.LawKit Jvm.RoadKit Bundle
/-! ### String constants -/
section Ldc
variable {C : Cx} {R : Room} {own : String} {b : ByteArray} {ml : Nat} {rt : Option FieldType} {nm : String} {q : Bool} {Z : State} {a0 : Array Value} {EL : List (String × Nat)} {n0 : Nat} {vm : Vm} {T : State} {h : Heap} {k n : Nat} {Q : Option Value → Heap → Prop} {pc pc' pt : Nat} {Ls Ls' : Array Slot} {st : List Value}
theorem On.ldcS (X : On C R own b ml rt nm q Z a0 EL n0 vm T h k n) (hq : q = false) {ix k' n' nn : Nat} {text : String} {cs : List Int32} (hi : Ins b pc (.ldc ix) 2 pc') (w : (Cond.stringLink own ix text).before a0 Z = true) (wS : ∀ a ∈ Bundle.stringAtoms, a.before a0 Z = true) (hmem : (own, ix) ∈ EL)
    (h1 : ∀ c ∈ text.toList, c.toNat < 256) (h2 : text.toList.map (fun c => Value.int (Jvm.Lit.byteI c.toNat.toUInt16)) = cs.map fun c => Value.int c.toInt8.toInt32) (h3 : ∀ c ∈ cs, ¬ c < 0 ∧ ¬ (255 : Int32) < c) (h4 : cs.length ≤ 4000) (h5 : 4 * text.toList.length ≤ nn) (h6 : nn ≤ 536870912)
    (hk' : k + 2 = k') (hn' : n + (nn + 4) = n') (hc : k' ≤ R.cells) (hsl : n' ≤ R.slots)
    (g : ∀ vm' T' h' a t kb, On C R own b ml rt nm q Z a0 EL n0 vm' T' h' k' n' → Ext h h' → CHr Z EL vm h vm' h' → Str Z h' a t kb cs → (∀ x, Safe Z EL vm' h' x → x ≠ a ∧ x ≠ t) → Go C R q Z EL n0 Q T' pc' Ls (.ref a :: st)) : Go C R q Z EL n0 Q T pc Ls st := by
  subst hk' hn' hq
  obtain ⟨-, rfl⟩ := id hi
  obtain ⟨⟨k0, locs, S, N, hS, hk⟩, -⟩ := id X
  have hz : ¬ (Int32.ofNat cs.length) < 0 := by
    intro z
    have z1 := Int32.lt_iff_toInt_lt.mp z
    have e1 : (Int32.ofNat cs.length).toInt = cs.length := Int32.toInt_ofNat_small (by omega)
    have e2 : (0 : Int32).toInt = 0 := by decide
    omega
  have hl : (Int32.ofNat cs.length).toNatClampNeg = (cs.map fun c => Value.int c.toInt8.toInt32).length := by
    have e1 : (Int32.ofNat cs.length).toInt = cs.length := Int32.toInt_ofNat_small (by omega)
    rw [List.length_map]
    show (Int32.ofNat cs.length).toInt.toNat = _
    rw [e1]; rfl
  obtain ⟨a, T', h', k1, t, kb, S', e', E', hS', hk1, hZ', ho', A1, A2, A3, A4, -, -, hC, -, hne, st'⟩ := ldcCH S X.exec X.zw X.owned w wS X.eT hS hk X.ew hmem X.chv ⟨h1, h2⟩ hz hl (g := mkF C.m pc Ls st) rfl (X.dec hi) h5 h6 hc hsl
  refine Go.of st' (g T'.vm T' h' a t kb ?_ E' hC ⟨A1, A3, A2, A4, h3⟩ hne)
  obtain ⟨-, -, e2, e3, e4, e5, e6, e7, -, -, e10, e11, -, e13⟩ := X
  exact ⟨⟨k1, locs, S', N, hS', hk1⟩, e', e2, e3, e4, e5, e6, e7, hZ', ho', e10, e11.trans hC, (fun z => nomatch z), e13.ext E'⟩
theorem On.instNull (X : On C R own b ml rt nm q Z a0 EL n0 vm T h k n) {ix : Nat} (hi : Ins b pc (.instanceof ix) 3 pc') (g : Go C R q Z EL n0 Q T pc' Ls (.int 0 :: st)) : Go C R q Z EL n0 Q T pc Ls (.null :: st) := by
  obtain ⟨-, rfl⟩ := id hi
  obtain ⟨⟨k0, locs, S, N, hS, hk⟩, -⟩ := id X
  exact Go.of (S.instanceofNull X.exec (g := mkF C.m pc Ls (.null :: st)) rfl rfl (X.dec hi)) g
theorem On.castNull (X : On C R own b ml rt nm q Z a0 EL n0 vm T h k n) {ix : Nat} (hi : Ins b pc (.checkcast ix) 3 pc') (g : Go C R q Z EL n0 Q T pc' Ls (.null :: st)) : Go C R q Z EL n0 Q T pc Ls (.null :: st) := by
  obtain ⟨-, rfl⟩ := id hi
  obtain ⟨⟨k0, locs, S, N, hS, hk⟩, -⟩ := id X
  exact Go.of (S.checkcastNull X.exec (g := mkF C.m pc Ls (.null :: st)) rfl rfl (X.dec hi)) g
theorem On.newarrayE (X : On C R own b ml rt nm q Z a0 EL n0 vm T h k n) {aty : ArrayType} {ty : FieldType} {ad : String} {z : Int32} {cap k' n' : Nat} (hi : Ins b pc (.newarray aty) 2 pc') (hty : newarray.typeOf aty = ty) (w : (Cond.arrayClass ty).before a0 Z = true)
    (hz : ¬ z < 0) (hcap : z.toNatClampNeg ≤ cap) (hbig : cap * 8 ≤ 536870912) (hk' : k + 1 = k') (hn' : n + cap = n') (hc : k' ≤ R.cells) (hl : n' ≤ R.slots) (had : "[" ++ ty.toString = ad)
    (g : ∀ T' h' a kA, On C R own b ml rt nm q Z a0 EL n0 vm T' h' k' n' → Ext h h' → h.size = a → n0 ≤ a → Arv Z h' a kA ty z [] (defaultValue ty) → Safe Z EL vm h' a → Exa Z h' a ad → Go C R q Z EL n0 Q T' pc' Ls (.ref a :: st)) : Go C R q Z EL n0 Q T pc Ls (.int z :: st) := by
  subst hk' hn' hty
  obtain ⟨-, rfl⟩ := id hi
  obtain ⟨⟨k0, locs, S, N, hS, hk⟩, -⟩ := id X
  obtain ⟨T', h', kA, S', e', E', A', F', st'⟩ := newPE S X.exec X.zw w X.eT (g := mkF C.m pc Ls (.int z :: st)) rfl (X.dec hi) rfl hz hcap hbig hc hl had
  exact Go.of st' (g T' h' h.size kA (X.put S' N hS hk e' (CHr.ext E' X.chv) (X.old.ext E')) E' rfl X.n0le (Arv.new A' hz) ((Safe.new (Nat.le_refl _)).ext E' X.chv) F')
/-- a box of a cache -/
theorem On.aaloadB (X : On C R own b ml rt nm q Z a0 EL n0 vm T h k n) {a : Addr} {cl : Cell} {K d : String} {z j : Int32} {val : Int32 → Value} (hi : Ins b pc .aaload 1 pc') (B : Bxs Z a cl K d z val) (hin : ¬ j < 0 ∧ j < z)
    (g : ∀ e, Exa Z h e K → Go C R q Z EL n0 Q T pc' Ls (.ref e :: st)) : Go C R q Z EL n0 Q T pc Ls (.int j :: .ref a :: st) := by
  obtain ⟨-, rfl⟩ := id hi
  obtain ⟨⟨k0, locs, S, N, hS, hk⟩, -⟩ := id X
  obtain ⟨A, S2, S3, H⟩ := B
  have hb := inb_of S2 hin
  obtain ⟨e, e1, e2, -⟩ := H j hb
  have A' := A.ext X.ext0
  exact Go.of (fun t u => S.aaload X.exec (by rw [X.eT]; exact A'.1) (State.isArrayOf_alike X.zw.alike A'.2.1) rfl A'.2.2 hb e1 (g := mkF C.m pc Ls (.int j :: .ref a :: st)) rfl rfl (X.dec hi) t u) (g e (e2.ext X.ext0))
/-- an array's clone() -/
theorem On.clone (X : On C R own b ml rt nm q Z a0 EL n0 vm T h k n) {ad : String} {ix W cap k' n' : Nat} {a : Addr} {kA : ClassId} {ty : FieldType} {z : Int32} {vs : List Value} {dv : Value} (hi : Ins b pc (.invokevirtual ix) 3 pc') (w1 : (Cond.methodLink own ix ⟨ad, "clone", "()Ljava/lang/Object;"⟩).before a0 Z = true)
    (w2 : (Cond.sameMethod ad "java/lang/Object" "clone" "()Ljava/lang/Object;").before a0 Z = true) (w3 : (Cond.native ⟨"java/lang/Object", "clone", "()Ljava/lang/Object;"⟩).before a0 Z = true) (w4 : (Cond.instanceMethod ⟨"java/lang/Object", "clone", "()Ljava/lang/Object;"⟩).before a0 Z = true)
    (w5 : (Cond.selects ad ⟨ad, "clone", "()Ljava/lang/Object;"⟩ ⟨"java/lang/Object", "clone", "()Ljava/lang/Object;"⟩).before a0 Z = true) (w6 : (Cond.castable ad "java/lang/Cloneable").before a0 Z = true) (V : Arv Z h a kA ty z vs dv) (E : Exa Z h a ad) (hsz : Ls.size = ml) (hW : 0 + (st.map fun v => v.category).sum = W)
    (hf : 1 ≤ R.frames) (hl : W + 14 ≤ R.locals) (hcap : z.toNatClampNeg ≤ cap) (hk' : k + 1 = k') (hn' : n + cap = n') (hc : k' ≤ R.cells) (hsl : n' ≤ R.slots)
    (g : ∀ T' h' a', On C R own b ml rt nm q Z a0 EL n0 vm T' h' k' n' → Ext h h' → h.size = a' → n0 ≤ a' → Arv Z h' a' kA ty z vs dv → Exa Z h' a' ad → Safe Z EL vm h' a' → Go C R q Z EL n0 Q T' pc' Ls (.ref a' :: st)) : Go C R q Z EL n0 Q T pc Ls (.ref a :: st) := by
  subst hk' hn'
  obtain ⟨-, rfl⟩ := id hi
  obtain ⟨⟨k0, locs, S, N, hS, hk⟩, -, -, -, hml, -⟩ := id X
  obtain ⟨T', h', S', e', E', A', F', st'⟩ := cloneH S X.exec X.zw X.owned w1 w2 w3 w4 w5 w6 X.eT V.arh E (g := mkF C.m pc Ls (.ref a :: st)) rfl (hsz.trans hml.symm) rfl (X.dec hi) hf (W := W) (by show 2 * 0 + _ ≤ _; omega) hl hcap hc hsl
  exact Go.of st' (g T' h' h.size (X.put S' N hS hk e' (CHr.ext E' X.chv) (X.old.ext E')) E' rfl X.n0le A' F' ((Safe.new (Nat.le_refl _)).ext E' X.chv))
end Ldc
theorem own_narB (x : Int32) : nar .byte x.toInt8.toInt32 = x.toInt8.toInt32 := Value.int.inj (XT.narrow_b x)
section Starts
variable {s : State} {args : Array Value}
theorem own_eqI {a : Term} {c : Int32} (h : (Cond.eq a (.int c)).value args s none s [] = some true) : a.eval args s none [] s = some (.int c) := by
  obtain ⟨x, y, e1, e2, k1, -⟩ := cmp_v (Or.inl h)
  have e3 : y = .int c := Option.some.inj (e2.symm.trans (Term.int_eval c))
  subst e3
  cases x with
  | int z => rw [e1]; rw [gotT (Cond.eq_ints e1 (Term.int_eval c)) h]
  | _ => simp [Kin, Value.isRef] at k1
theorem own_eqR {a b : Term} {r : Addr} (h : (Cond.eq a b).value args s none s [] = some true) (hb : b.eval args s none [] s = some (.ref r)) : a.eval args s none [] s = some (.ref r) := by
  obtain ⟨x, y, e1, e2, -, k2⟩ := cmp_v (Or.inl h)
  cases e2.symm.trans hb
  have hx : x.isRef = true := k2.2
  rw [e1, gotT (eq_R e1 hb hx rfl) h]
theorem own_arrStart (hf : Fit s) {t : Term} {ty : FieldType} {a : Addr} {N : Int32} {vs : List Value} {dv : Value} (ev : t.eval args s none [] s = some (.ref a)) (ha : (Cond.arrayOf t ty).value args s none s [] = some true) (hl : (Cond.eq (.length t) (.int N)).value args s none s [] = some true) (hz : ¬ N < 0) (hN : N.toNatClampNeg = vs.length)
    (H : ∀ cl : Cell, s.heap[a]? = some cl → HasL cl 0 vs) : ∃ k, Arv s s.heap a k ty N vs dv := by
  obtain ⟨cl, A⟩ := Arr.start ev ha
  have e1 := own_eqI hl
  have e2 : s.arrayAt? a = some cl := A.fin (Vm.Alike.refl _)
  have e3 : cl.slots.size < 2 ^ 31 := by
    refine Classical.byContradiction fun q => ?_
    simp [Term.eval, ev, e2, q] at e1
  have e4 := len_f ev e2 e3
  have e5 : cl.slots.size.toInt32 = N := by
    have := e4.symm.trans e1
    simpa using this
  exact ⟨_, Arv.start hf A e3 e5 hz hN (H cl A.1)⟩
theorem own_elemAt {t : Term} {a : Addr} {j : Int32} {v : Value} {cl : Cell} (ev : t.eval args s none [] s = some (.ref a)) (he : (Term.elem t (.int j)).eval args s none [] s = some v) (hc : s.heap[a]? = some cl) : cl.slots[j.toNatClampNeg]? = some v := (elem_in he ev (Term.int_eval j) hc).2
theorem own_fldStart {t : Term} {m : Addr} {C n d : String} {v : Value} (ev : t.eval args s none [] s = some (.ref m)) (h : (Term.field t C n d).eval args s none [] s = some v) : Fld s s.heap m C n d v := Fld.start (by rw [← fld_at ev]; exact h)
end Starts
section Kinds
variable {Z : State} {a0 : Array Value}
theorem nsRoot {O K : String} {nk : Nat} (w : (Cond.noSuperclass O).before a0 Z = true) (wk : (Cond.instantiable K nk).before a0 Z = true) (hn : O ≠ K) : NS Z O K := by
  obtain ⟨c, k, h1, h2, h3, -, -⟩ := Cond.noSuperclass_spec w
  obtain ⟨t, kt, g1, -⟩ := Cond.instantiable_spec wk
  have ne := ids_ne h1 g1 hn
  refine ⟨c, t, h1, g1, fun fuel => ?_⟩
  cases fuel with
  | zero => rfl
  | succ f => simp [Vm.isSubclassAux, ne, h2, h3]
theorem nsNo {Cl K : String} {nc nk : Nat} (wc : (Cond.instantiable Cl nc).before a0 Z = true) (wk : (Cond.instantiable K nk).before a0 Z = true) (N : NS Z Cl K) (hn : Cl ≠ K) : ∃ c t, Z.vm.findClass Cl = some c ∧ Z.vm.findClass K = some t ∧ Z.vm.assignable c t = false := by
  obtain ⟨c, t, h0, g0, n3⟩ := N
  obtain ⟨c', kc, a1, a2, a3, -⟩ := Cond.instantiable_spec wc
  cases h0.symm.trans a1
  obtain ⟨t', kt, b1, b2, b3, b4, -⟩ := Cond.instantiable_spec wk
  cases g0.symm.trans b1
  have ne := ids_ne h0 g0 hn
  have b5 : kt.isInterface = false := (Bool.or_eq_false_iff.mp b4).1
  refine ⟨c, t, h0, g0, ?_⟩
  show Z.vm.assignableAux (255 + 1) c t = false
  simp [Vm.assignableAux, ne, a2, b2, a3, b3, b5, Vm.isSubclass, n3]
/-- .. and of an array class -/
theorem nsRootA {O K : String} {ty : FieldType} (w : (Cond.noSuperclass O).before a0 Z = true) (wk : (Cond.arrayClass ty).before a0 Z = true) (hK : "[" ++ ty.toString = K) (hn : O ≠ K) : NS Z O K := by
  obtain ⟨c, k, h1, h2, h3, -, -⟩ := Cond.noSuperclass_spec w
  obtain ⟨t, kt, comp, g1, -⟩ := Cond.arrayClass_spec wk
  rw [hK] at g1
  have ne := ids_ne h1 g1 hn
  refine ⟨c, t, h1, g1, fun fuel => ?_⟩
  cases fuel with
  | zero => rfl
  | succ f => simp [Vm.isSubclassAux, ne, h2, h3]
theorem nsNoA {Cl K m d o : String} {nc : Nat} {ty : FieldType} (wc : (Cond.instantiable Cl nc).before a0 Z = true) (wk : (Cond.arrayClass ty).before a0 Z = true) (hK : "[" ++ ty.toString = K) (ws : (Cond.sameMethod K o m d).before a0 Z = true) (N : NS Z Cl K) (hn : Cl ≠ K) : ∃ c t, Z.vm.findClass Cl = some c ∧ Z.vm.findClass K = some t ∧ Z.vm.assignable c t = false := by
  obtain ⟨c, t, h0, g0, n3⟩ := N
  obtain ⟨c', kc, a1, a2, a3, -⟩ := Cond.instantiable_spec wc
  cases h0.symm.trans a1
  obtain ⟨t', kt, comp, b1, b2, b3⟩ := Cond.arrayClass_spec wk
  rw [hK] at b1
  cases g0.symm.trans b1
  obtain ⟨t2, kt2, d1, d2, b5⟩ := Cond.sameMethod_class ws
  cases g0.symm.trans d1
  cases b2.symm.trans d2
  have ne := ids_ne h0 g0 hn
  refine ⟨c, t, h0, g0, ?_⟩
  show Z.vm.assignableAux (255 + 1) c t = false
  simp [Vm.assignableAux, ne, a2, b2, a3, b3, b5, Vm.isSubclass, n3]
end Kinds
end Jvm.Own
/- laws to paste: Road.backV, Road.eqW (cut by pick.py; bodies as the Statement names them) -/
namespace Jvm.Pilot.@@N@@
namespace StrChars
open Jvm Sem ClassFile Op Lib Jvm.Stand Jvm.Free.XT Jvm.Free.ALB Jvm.Free.JM Jvm.Free
open Jvm.Lib.Cold (StaticIs)
/-- a char array whose places are chars -/
def Ch (a : Addr) (A : Cell) (U : State) : Prop := Arr .char a A U ∧ Typed .char A
theorem Ch.mv {a : Addr} {A : Cell} {U U' : State} (h : Ch a A U) (hal : U.vm.Alike U'.vm) (hh : U'.heap = U.heap) : Ch a A U' := ⟨h.1.mv hal hh, h.2⟩
theorem Ch.keep {a : Addr} {A : Cell} {U U' : State} (h : Ch a A U) (hal : U.vm.Alike U'.vm) (hk : U'.heap[a]? = some A) : Ch a A U' := ⟨h.1.keep hal hk, h.2⟩
/-- what place i of a char[]'s cell holds -/
def cv (A : Cell) (i : Nat) : Int32 := match A.slots[i]? with | some (.int x) => x | _ => 0
theorem Ch.get {a : Addr} {A : Cell} {U : State} (h : Ch a A U) {i : Nat} (hi : i < A.slots.size) : A.slots[i]? = some (.int (cv A i)) := by
  have e := Array.getElem?_eq_getElem hi
  have f := h.2 i _ e
  unfold cv; rw [e]
  generalize A.slots[i] = v at f
  cases v <;> simp [fits] at f ⊢
/-- the byte that i2b leaves of a char -/
def lo8 (x : Int32) : Int32 := x.toInt8.toInt32
theorem fits_lo8 (y : Int32) : fits .byte (.int (lo8 y)) = true := by
  have h1 := y.toInt8.le_toInt
  have h2 := y.toInt8.toInt_lt
  simp only [lo8, fits, Bool.and_eq_true, decide_eq_true_eq, Int32.le_iff_toInt_le, Int8.toInt_toInt32, show (-128 : Int32).toInt = -128 from by decide, show (127 : Int32).toInt = 127 from by decide]
  omega
/-- A' is A but that each place j of lo .. hi - 1 holds f j -/
def Laid (A A' : Cell) (lo hi : Nat) (f : Nat → Value) : Prop := A'.cls = A.cls ∧ A'.vm = A.vm ∧ A'.slots.size = A.slots.size ∧ ∀ i, A'.slots[i]? = if lo ≤ i ∧ i < hi then some (f i) else A.slots[i]?
theorem Laid.zero (A : Cell) (lo : Nat) (f : Nat → Value) : Laid A A lo (lo + 0) f := ⟨rfl, rfl, rfl, fun i => by rw [if_neg (by omega)]⟩
theorem Laid.step {A Ak : Cell} {lo k : Nat} {f : Nat → Value} {v : Value} (h : Laid A Ak lo k f) (hlo : lo ≤ k) (hk : k < Ak.slots.size) (hv : v = f k) : Laid A (Ak.setSlot k v) lo (k + 1) f := by
  refine ⟨h.1, h.2.1, by simpa [Cell.setSlot] using h.2.2.1, fun i => ?_⟩
  by_cases e : k = i
  · subst e; rw [Cell.slots_setSlot_self v hk, if_pos (by omega), hv]
  · rw [Cell.slots_setSlot_ne v e, h.2.2.2 i]
    by_cases q : lo ≤ i ∧ i < k
    · rw [if_pos q, if_pos (by omega)]
    · rw [if_neg q, if_neg (by omega)]
def U16 : String := "java/lang/StringUTF16"
namespace Cmp5
def yN : MethodName := ⟨"java/lang/StringUTF16", "compress", "([CI[BII)I"⟩
abbrev yB : ByteArray := jdk_52_method_21_code
theorem d0 : decode yB 0 = .ok (.iconst 0, 1) := by decide +kernel
theorem d1 : decode yB 1 = .ok (.istore 5, 2) := by decide +kernel
theorem d3 : decode yB 3 = .ok (.iload 5, 2) := by decide +kernel
theorem d5 : decode yB 5 = .ok (.iload 4, 2) := by decide +kernel
theorem d7 : decode yB 7 = .ok (.if_icmp (.ge) 37, 3) := by decide +kernel
theorem d10 : decode yB 10 = .ok (.aload_n 0, 1) := by decide +kernel
theorem d11 : decode yB 11 = .ok (.iload_n 1, 1) := by decide +kernel
theorem d12 : decode yB 12 = .ok (.caload, 1) := by decide +kernel
theorem d13 : decode yB 13 = .ok (.istore 6, 2) := by decide +kernel
theorem d15 : decode yB 15 = .ok (.iload 6, 2) := by decide +kernel
theorem d17 : decode yB 17 = .ok (.sipush 255, 3) := by decide +kernel
theorem d20 : decode yB 20 = .ok (.if_icmp (.le) 6, 3) := by decide +kernel
theorem d26 : decode yB 26 = .ok (.aload_n 2, 1) := by decide +kernel
theorem d27 : decode yB 27 = .ok (.iload_n 3, 1) := by decide +kernel
theorem d28 : decode yB 28 = .ok (.iload 6, 2) := by decide +kernel
theorem d30 : decode yB 30 = .ok (.i2b, 1) := by decide +kernel
theorem d31 : decode yB 31 = .ok (.bastore, 1) := by decide +kernel
theorem d32 : decode yB 32 = .ok (.iinc 1 1, 3) := by decide +kernel
theorem d35 : decode yB 35 = .ok (.iinc 3 1, 3) := by decide +kernel
theorem d38 : decode yB 38 = .ok (.iinc 5 1, 3) := by decide +kernel
theorem d41 : decode yB 41 = .ok (.goto (-38), 3) := by decide +kernel
theorem d44 : decode yB 44 = .ok (.iload 4, 2) := by decide +kernel
theorem d46 : decode yB 46 = .ok (.ireturn, 1) := by decide +kernel
def site : List Cond := []
def tab : Cond := tabOf yN yB 7 (some .int) site
def P (b : Addr) (A : Cell) (d : Addr) (B : Cell) (o q len : Nat) (args : Array Value) (s : State) : Prop := args = #[.ref b, .int (Int32.ofNat o), .ref d, .int (Int32.ofNat q), .int (Int32.ofNat len)] ∧ Ch b A s ∧ Arr .byte d B s ∧ b ≠ d ∧ o + len ≤ A.slots.size ∧ q + len ≤ B.slots.size ∧ ∀ i, i < len → ¬ 255 < cv A (o + i)
def E (b : Addr) (A : Cell) (d : Addr) (B : Cell) (o q len : Nat) (r : Option Value) (s u : State) : Prop := r = some (.int (Int32.ofNat len)) ∧ ∃ B', Put d B' s u ∧ Laid B B' q (q + len) (fun j => Value.int (lo8 (cv A (o + (j - q)))))
/-- no char of the range above 255: len; the places written hold each char's low byte -/
theorem law (l : Launch) (b : Addr) (A : Cell) (d : Addr) (B : Cell) (o q len : Nat) : Law l yN 5 5 0 0 yB 7 (some .int) site (P b A d B o q len) (E b A d B o q len) (copyLocs d q len) 0 0 := by
  refine Law.of_walk (plainFor_of_name (by decide +kernel)) (by decide +kernel) (by decide +kernel) (by decide) (fun _ _ h => by rw [h.1]; rfl) (fun _ U U' hal hh h => ⟨h.1, h.2.1.mv hal hh, h.2.2.1.mv hal hh, h.2.2.2⟩) (fun r U U' V V' h1 hal h2 h => ⟨h.1, h.2.elim fun B' q => ⟨B', q.1.mv h1 h2, q.2⟩⟩) ?_
  intro p e s m args below meth c s₁ X0 hexec hbytes hml hret hlk hnm hown hh0 W hP
  obtain ⟨rfl, hA, hB, hne, l1, l2, hp⟩ := hP
  have c1 : Steps p.tables e below (s₁.setTop (entryFrame m #[.ref b, .int (Int32.ofNat o), .ref d, .int (Int32.ofNat q), .int (Int32.ofNat len)] 7)) (s₁.setTop (mkF m 0 #[.val (.ref b), .val (.int (Int32.ofNat o)), .val (.ref d), .val (.int (Int32.ofNat q)), .val (.int (Int32.ofNat len)), .unset, .unset] [])) := entry rfl
  have hA0 := hA.1.mv X0.warmed.alike hh0
  have hB0 := hB.mv X0.warmed.alike hh0
  have a31 := hA.1.2.2.2
  have c2 : Steps p.tables e below (s₁.setTop (entryFrame m #[.ref b, .int (Int32.ofNat o), .ref d, .int (Int32.ofNat q), .int (Int32.ofNat len)] 7)) (s₁.setTop (mkF m 3 #[.val (.ref b), .val (.int (Int32.ofNat o)), .val (.ref d), .val (.int (Int32.ofNat q)), .val (.int (Int32.ofNat len)), .val (.int 0), .unset] [])) := c1.trans (by
    refine iconstV X0.here hexec rfl 0 (hb hbytes d0) (by decide) ?_
    refine XS.istore X0.here hexec rfl (hb hbytes d1) rfl rfl ?_
    exact Steps.refl _)
  have loop : ∀ (r i : Nat), i + r = len → ∀ (z : Slot), (z = .unset ∨ ∃ w, z = .val w ∧ w.category = 1) → ∀ (Tl : State) (Bk : Cell), Stand p l e { frames := 0, locals := 0, cells := 0, slots := 0 } s m #[.ref b, .int (Int32.ofNat o), .ref d, .int (Int32.ofNat q), .int (Int32.ofNat len)] below meth c Tl ([] ++ copyLocs d q i) 0 0 → Put d Bk s₁ Tl → Laid B Bk q (q + i) (fun j => Value.int (lo8 (cv A (o + (j - q))))) →
      Steps p.tables e below (s₁.setTop (entryFrame m #[.ref b, .int (Int32.ofNat o), .ref d, .int (Int32.ofNat q), .int (Int32.ofNat len)] 7)) (Tl.setTop (mkF m 3 #[.val (.ref b), .val (.int (Int32.ofNat (o + i))), .val (.ref d), .val (.int (Int32.ofNat (q + i))), .val (.int (Int32.ofNat len)), .val (.int (Int32.ofNat i)), z] [])) → ∃ (T' : State) (B' : Cell) (z' : Slot), Stand p l e { frames := 0, locals := 0, cells := 0, slots := 0 } s m #[.ref b, .int (Int32.ofNat o), .ref d, .int (Int32.ofNat q), .int (Int32.ofNat len)] below meth c T' ([] ++ copyLocs d q len) 0 0 ∧ Put d B' s₁ T' ∧ Laid B B' q (q + len) (fun j => Value.int (lo8 (cv A (o + (j - q))))) ∧
      Steps p.tables e below (s₁.setTop (entryFrame m #[.ref b, .int (Int32.ofNat o), .ref d, .int (Int32.ofNat q), .int (Int32.ofNat len)] 7)) (T'.setTop (mkF m 3 #[.val (.ref b), .val (.int (Int32.ofNat (o + len))), .val (.ref d), .val (.int (Int32.ofNat (q + len))), .val (.int (Int32.ofNat len)), .val (.int (Int32.ofNat len)), z'] [])) := by
    intro r
    induction r with
    | zero =>
      intro i hi z hz Tl Bk Xl pl fl cl
      have hil : i = len := by omega
      rw [hil] at Xl fl cl
      exact ⟨Tl, Bk, z, Xl, pl, fl, cl⟩
    | succ r ih =>
      intro i hi z hz Tl Bk Xl pl fl cl
      have all := X0.warmed.alike.symm.trans Xl.warmed.alike
      have hAl := hA0.keep all (pl.other hne hA0.1)
      have hBk := hB0.like all pl.1 fl.1 fl.2.1 fl.2.2.1
      have hlt : q + i < Bk.slots.size := by rw [fl.2.2.1]; omega
      have c3 : Steps p.tables e below (s₁.setTop (entryFrame m #[.ref b, .int (Int32.ofNat o), .ref d, .int (Int32.ofNat q), .int (Int32.ofNat len)] 7)) (Tl.setTop (mkF m 12 #[.val (.ref b), .val (.int (Int32.ofNat (o + i))), .val (.ref d), .val (.int (Int32.ofNat (q + i))), .val (.int (Int32.ofNat len)), .val (.int (Int32.ofNat i)), z] [.int (Int32.ofNat (o + i)), .ref b])) := cl.trans (by
        refine XS.iload Xl.here hexec rfl (hb hbytes d3) rfl ?_
        refine XS.iload Xl.here hexec rfl (hb hbytes d5) rfl ?_
        refine XS.icmpNo Xl.here hexec rfl (hb hbytes d7) rfl (ii_ge_f (lt32 (by omega) (by omega))) ?_
        refine XS.aloadN Xl.here hexec rfl (hb hbytes d10) rfl rfl ?_
        refine XS.iloadN Xl.here hexec rfl (hb hbytes d11) rfl ?_
        exact Steps.refl _)
      have c4 : Steps p.tables e below (s₁.setTop (entryFrame m #[.ref b, .int (Int32.ofNat o), .ref d, .int (Int32.ofNat q), .int (Int32.ofNat len)] 7)) (Tl.setTop (mkF m 13 #[.val (.ref b), .val (.int (Int32.ofNat (o + i))), .val (.ref d), .val (.int (Int32.ofNat (q + i))), .val (.int (Int32.ofNat len)), .val (.int (Int32.ofNat i)), z] [.int (cv A (o + i))])) := c3.trans (by
        refine Xl.aget hexec hAl rfl (hA.get (i := o + i) (by omega)) rfl rfl (hb hbytes d12) ?_
        exact Steps.refl _)
      have c5 : Steps p.tables e below (s₁.setTop (entryFrame m #[.ref b, .int (Int32.ofNat o), .ref d, .int (Int32.ofNat q), .int (Int32.ofNat len)] 7)) (Tl.setTop (mkF m 15 #[.val (.ref b), .val (.int (Int32.ofNat (o + i))), .val (.ref d), .val (.int (Int32.ofNat (q + i))), .val (.int (Int32.ofNat len)), .val (.int (Int32.ofNat i)), .val (.int (cv A (o + i)))] [])) := c4.trans (by
        refine XS.istoreS Xl.here hexec rfl (hb hbytes d13) rfl rfl hz ?_
        exact Steps.refl _)
      have c6 : Steps p.tables e below (s₁.setTop (entryFrame m #[.ref b, .int (Int32.ofNat o), .ref d, .int (Int32.ofNat q), .int (Int32.ofNat len)] 7)) (Tl.setTop (mkF m 31 #[.val (.ref b), .val (.int (Int32.ofNat (o + i))), .val (.ref d), .val (.int (Int32.ofNat (q + i))), .val (.int (Int32.ofNat len)), .val (.int (Int32.ofNat i)), .val (.int (cv A (o + i)))] [.int (lo8 (cv A (o + i))), .int (Int32.ofNat (q + i)), .ref d])) := c5.trans (by
        refine XS.iload Xl.here hexec rfl (hb hbytes d15) rfl ?_
        refine sipushV Xl.here hexec rfl 255 (hb hbytes d17) (by decide) ?_
        refine XS.icmpYes Xl.here hexec rfl (pc0 := 20) rfl (hb hbytes d20) rfl (ii_le_t (hp i (by omega))) (by decide) rfl ?_
        refine XS.aloadN Xl.here hexec rfl (hb hbytes d26) rfl rfl ?_
        refine XS.iloadN Xl.here hexec rfl (hb hbytes d27) rfl ?_
        refine XS.iload Xl.here hexec rfl (hb hbytes d28) rfl ?_
        refine i2b Xl.here hexec rfl (hb hbytes d30) rfl ?_
        exact Steps.refl _)
      obtain ⟨T7, X7, p7, st7⟩ := Xl.aput hexec hBk rfl hlt rfl (fits_lo8 (cv A (o + i))) (g := (mkF m 31 #[.val (.ref b), .val (.int (Int32.ofNat (o + i))), .val (.ref d), .val (.int (Int32.ofNat (q + i))), .val (.int (Int32.ofNat len)), .val (.int (Int32.ofNat i)), .val (.int (cv A (o + i)))] [.int (lo8 (cv A (o + i))), .int (Int32.ofNat (q + i)), .ref d])) rfl (rest := []) rfl (hb hbytes d31)
      have c8 : Steps p.tables e below (s₁.setTop (entryFrame m #[.ref b, .int (Int32.ofNat o), .ref d, .int (Int32.ofNat q), .int (Int32.ofNat len)] 7)) (T7.setTop (mkF m 32 #[.val (.ref b), .val (.int (Int32.ofNat (o + i))), .val (.ref d), .val (.int (Int32.ofNat (q + i))), .val (.int (Int32.ofNat len)), .val (.int (Int32.ofNat i)), .val (.int (cv A (o + i)))] [])) := c6.trans (st7 _ (Steps.refl _))
      have c9 : Steps p.tables e below (s₁.setTop (entryFrame m #[.ref b, .int (Int32.ofNat o), .ref d, .int (Int32.ofNat q), .int (Int32.ofNat len)] 7)) (T7.setTop (mkF m 3 #[.val (.ref b), .val (.int (Int32.ofNat (o + i) + 1)), .val (.ref d), .val (.int (Int32.ofNat (q + i) + 1)), .val (.int (Int32.ofNat len)), .val (.int (Int32.ofNat i + 1)), .val (.int (cv A (o + i)))] [])) := c8.trans (by
        refine iincV X7.here hexec rfl 1 (hb hbytes d32) (by decide) rfl rfl ?_
        refine iincV X7.here hexec rfl 1 (hb hbytes d35) (by decide) rfl rfl ?_
        refine iincV X7.here hexec rfl 1 (hb hbytes d38) (by decide) rfl rfl ?_
        refine XS.goto X7.here hexec rfl (pc0 := 41) rfl (hb hbytes d41) (by decide) rfl ?_
        exact Steps.refl _)
      have c10 : Steps p.tables e below (s₁.setTop (entryFrame m #[.ref b, .int (Int32.ofNat o), .ref d, .int (Int32.ofNat q), .int (Int32.ofNat len)] 7)) (T7.setTop (mkF m 3 #[.val (.ref b), .val (.int (Int32.ofNat (o + (i + 1)))), .val (.ref d), .val (.int (Int32.ofNat (q + (i + 1)))), .val (.int (Int32.ofNat len)), .val (.int (Int32.ofNat (i + 1))), .val (.int (cv A (o + i)))] [])) := by
        have := c9
        rw [succ32, succ32, succ32] at this
        exact this
      exact ih (i + 1) (by omega) _ (Or.inr ⟨_, rfl, rfl⟩) T7 _ (by rw [copyLocs_step, ← List.append_assoc]; exact X7) (pl.trans p7) (fl.step (by omega) hlt (by simp)) c10
  obtain ⟨T9, B9, z9, X9, p9, f9, g9⟩ := loop len 0 (by omega) .unset (Or.inl rfl) s₁ B (by simpa [copyLocs] using X0) ⟨hB0.1, fun _ _ => rfl, rfl⟩ (Laid.zero _ _ _) c2
  have c11 : Steps p.tables e below (s₁.setTop (entryFrame m #[.ref b, .int (Int32.ofNat o), .ref d, .int (Int32.ofNat q), .int (Int32.ofNat len)] 7)) (T9.setTop (mkF m 46 #[.val (.ref b), .val (.int (Int32.ofNat (o + len))), .val (.ref d), .val (.int (Int32.ofNat (q + len))), .val (.int (Int32.ofNat len)), .val (.int (Int32.ofNat len)), z9] [.int (Int32.ofNat len)])) := g9.trans (by
    refine XS.iload X9.here hexec rfl (hb hbytes d3) rfl ?_
    refine XS.iload X9.here hexec rfl (hb hbytes d5) rfl ?_
    refine XS.icmpYes X9.here hexec rfl (pc0 := 7) rfl (hb hbytes d7) rfl (ii_ge_t (nlt32 (by omega) (Nat.le_refl _))) (by decide) rfl ?_
    refine XS.iload X9.here hexec rfl (hb hbytes d44) rfl ?_
    exact Steps.refl _)
  exact ⟨T9, some (.int (Int32.ofNat len)), _, _, _, X9, by simp, rfl, rfl, (fun h => by cases h), ⟨rfl, B9, p9.from hh0, f9⟩, fun fs hl => c11.trans (X9.ireturnOut hexec hret rfl (Or.inl rfl) (hb hbytes d46) hl)⟩
end Cmp5
namespace Cmp3
def yN : MethodName := ⟨"java/lang/StringUTF16", "compress", "([CII)[B"⟩
abbrev yB : ByteArray := jdk_52_method_16_code
theorem d0 : decode yB 0 = .ok (.iload_n 2, 1) := by decide +kernel
theorem d1 : decode yB 1 = .ok (.newarray .byte, 2) := by decide +kernel
theorem d3 : decode yB 3 = .ok (.astore_n 3, 1) := by decide +kernel
theorem d4 : decode yB 4 = .ok (.aload_n 0, 1) := by decide +kernel
theorem d5 : decode yB 5 = .ok (.iload_n 1, 1) := by decide +kernel
theorem d6 : decode yB 6 = .ok (.aload_n 3, 1) := by decide +kernel
theorem d7 : decode yB 7 = .ok (.iconst 0, 1) := by decide +kernel
theorem d8 : decode yB 8 = .ok (.iload_n 2, 1) := by decide +kernel
theorem d9 : decode yB 9 = .ok (.invokestatic 115, 3) := by decide +kernel
theorem d12 : decode yB 12 = .ok (.istore 4, 2) := by decide +kernel
theorem d14 : decode yB 14 = .ok (.iload 4, 2) := by decide +kernel
theorem d16 : decode yB 16 = .ok (.iload_n 2, 1) := by decide +kernel
theorem d17 : decode yB 17 = .ok (.if_icmp (.eq) 40, 3) := by decide +kernel
theorem d57 : decode yB 57 = .ok (.aload_n 3, 1) := by decide +kernel
theorem d58 : decode yB 58 = .ok (.areturn, 1) := by decide +kernel
def site : List Cond := [.arrayClass .byte, Cmp5.tab] ++ staticW U16 115 Cmp5.yN
def tab : Cond := tabOf yN yB 6 (some (.array .byte)) site
def P (b : Addr) (A : Cell) (o len : Nat) (args : Array Value) (s : State) : Prop := args = #[.ref b, .int (Int32.ofNat o), .int (Int32.ofNat len)] ∧ Ch b A s ∧ o + len ≤ A.slots.size ∧ len ≤ 536870912 ∧ ∀ i, i < len → ¬ 255 < cv A (o + i)
def E (b : Addr) (A : Cell) (o len : Nat) (r : Option Value) (s u : State) : Prop := NewArr .byte "[B" len (fun j => .int (lo8 (cv A (o + j)))) r s u ∧ u.heap.size = s.heap.size + 1
/-- no char of the range above 255: a new byte[] of their low bytes -/
theorem law (l : Launch) (b : Addr) (A : Cell) (o len : Nat) : Law l yN 3 3 1 18 yB 6 (some (.array .byte)) site (P b A o len) (E b A o len) [] 1 len := by
  refine Law.of_walk (plainFor_of_name (by decide +kernel)) (by decide +kernel) (by decide +kernel) (by decide) (fun _ _ h => by rw [h.1]; rfl) (fun _ U U' hal hh h => ⟨h.1, h.2.1.mv hal hh, h.2.2⟩) (fun r U U' V V' h1 hal h2 h => ⟨NewArr.mv r U U' V V' h1 hal h2 h.1, by rw [h1, h2]; exact h.2⟩) ?_
  intro p e s m args below meth c s₁ X0 hexec hbytes hml hret hlk hnm hown hh0 W hP
  obtain ⟨rfl, hA, l1, l2, hp⟩ := hP
  have a31 := hA.1.2.2.2
  have c1 : Steps p.tables e below (s₁.setTop (entryFrame m #[.ref b, .int (Int32.ofNat o), .int (Int32.ofNat len)] 6)) (s₁.setTop (mkF m 0 #[.val (.ref b), .val (.int (Int32.ofNat o)), .val (.int (Int32.ofNat len)), .unset, .unset, .unset] [])) := entry rfl
  have c2 : Steps p.tables e below (s₁.setTop (entryFrame m #[.ref b, .int (Int32.ofNat o), .int (Int32.ofNat len)] 6)) (s₁.setTop (mkF m 1 #[.val (.ref b), .val (.int (Int32.ofNat o)), .val (.int (Int32.ofNat len)), .unset, .unset, .unset] [.int (Int32.ofNat len)])) := c1.trans (by
    refine XS.iloadN X0.here hexec rfl (hb hbytes d0) rfl ?_
    exact Steps.refl _)
  obtain ⟨T3, B3, X3, ba3, bs3, bv3, bh3, bf3, st3⟩ := X0.anew hexec (atype := .byte) (wk W (.arrayClass .byte)) rfl (by show len * 1 ≤ _; omega) (by omega) (g := (mkF m 1 #[.val (.ref b), .val (.int (Int32.ofNat o)), .val (.int (Int32.ofNat len)), .unset, .unset, .unset] [.int (Int32.ofNat len)])) rfl (hb hbytes d1) (rest := []) rfl (Nat.le_refl _) (by show 0 + len ≤ len; omega)
  rw [hh0] at ba3 st3
  have kp3 : XT.Kept s T3 := (XT.Kept.of_eq hh0).push bh3
  have hA3 := hA.keep X3.warmed.alike (kp3 _ _ hA.1.1)
  have hne : b ≠ s.heap.size := hA.1.ne
  have c4 : Steps p.tables e below (s₁.setTop (entryFrame m #[.ref b, .int (Int32.ofNat o), .int (Int32.ofNat len)] 6)) (T3.setTop (mkF m 3 #[.val (.ref b), .val (.int (Int32.ofNat o)), .val (.int (Int32.ofNat len)), .unset, .unset, .unset] [.ref s.heap.size])) := c2.trans (st3 _ (Steps.refl _))
  have c5 : Steps p.tables e below (s₁.setTop (entryFrame m #[.ref b, .int (Int32.ofNat o), .int (Int32.ofNat len)] 6)) (T3.setTop (mkF m 9 #[.val (.ref b), .val (.int (Int32.ofNat o)), .val (.int (Int32.ofNat len)), .val (.ref s.heap.size), .unset, .unset] [.int (Int32.ofNat len), .int 0, .ref s.heap.size, .int (Int32.ofNat o), .ref b])) := c4.trans (by
    refine XS.astoreN X3.here hexec rfl (hb hbytes d3) rfl rfl rfl ?_
    refine XS.aloadN X3.here hexec rfl (hb hbytes d4) rfl rfl ?_
    refine XS.iloadN X3.here hexec rfl (hb hbytes d5) rfl ?_
    refine XS.aloadN X3.here hexec rfl (hb hbytes d6) rfl rfl ?_
    refine iconstV X3.here hexec rfl 0 (hb hbytes d7) (by decide) ?_
    refine XS.iloadN X3.here hexec rfl (hb hbytes d8) rfl ?_
    exact Steps.refl _)
  obtain ⟨v6, T6, X6, E6, g6⟩ := X3.callS hexec (Cmp5.law l b A s.heap.size B3 o 0 len) hown (wks W (staticW U16 115 Cmp5.yN)) (wk W Cmp5.tab) (W := 0) (Nat.le_of_ble_eq_true rfl) (Nat.le_of_ble_eq_true rfl) (Nat.le_refl _) (by show 0 + len + 0 ≤ len; omega) (g := (mkF m 9 #[.val (.ref b), .val (.int (Int32.ofNat o)), .val (.int (Int32.ofNat len)), .val (.ref s.heap.size), .unset, .unset] [.int (Int32.ofNat len), .int (Int32.ofNat 0), .ref s.heap.size, .int (Int32.ofNat o), .ref b])) rfl (by rw [hml]; rfl) c5 (argsL := [.ref b, .int (Int32.ofNat o), .ref s.heap.size, .int (Int32.ofNat 0), .int (Int32.ofNat len)]) (rest := []) rfl rfl (by show 2 * 0 + 0 ≤ _; decide) (hb hbytes d9) (⟨rfl, hA3, ba3, hne, l1, by rw [bs3]; simp, hp⟩)
  obtain ⟨rfl, B6, p6, f6⟩ := E6
  have c7 : Steps p.tables e below (s₁.setTop (entryFrame m #[.ref b, .int (Int32.ofNat o), .int (Int32.ofNat len)] 6)) (T6.setTop (mkF m 12 #[.val (.ref b), .val (.int (Int32.ofNat o)), .val (.int (Int32.ofNat len)), .val (.ref s.heap.size), .unset, .unset] [.int (Int32.ofNat len)])) := g6
  have c8 : Steps p.tables e below (s₁.setTop (entryFrame m #[.ref b, .int (Int32.ofNat o), .int (Int32.ofNat len)] 6)) (T6.setTop (mkF m 58 #[.val (.ref b), .val (.int (Int32.ofNat o)), .val (.int (Int32.ofNat len)), .val (.ref s.heap.size), .val (.int (Int32.ofNat len)), .unset] [.ref s.heap.size])) := c7.trans (by
    refine XS.istore X6.here hexec rfl (hb hbytes d12) rfl rfl ?_
    refine XS.iload X6.here hexec rfl (hb hbytes d14) rfl ?_
    refine XS.iloadN X6.here hexec rfl (hb hbytes d16) rfl ?_
    refine XS.icmpYes X6.here hexec rfl (pc0 := 17) rfl (hb hbytes d17) rfl (ii_eq_t rfl) (by decide) rfl ?_
    refine XS.aloadN X6.here hexec rfl (hb hbytes d57) rfl rfl ?_
    exact Steps.refl _)
  have X8 := X6.wide (L' := []) (cells' := 1) (slots' := len) (fun x hx hlt => by
    simp only [List.nil_append, copyLocs, List.mem_map, List.mem_range] at hx
    obtain ⟨i, -, rfl⟩ := hx
    exact absurd hlt (Nat.lt_irrefl _)) (Nat.le_refl _) (by omega)
  exact ⟨T6, some (.ref s.heap.size), _, _, _, X8, rfl, rfl, rfl, (fun h => by cases h), ⟨⟨rfl, B6, ba3.like (X3.warmed.alike.symm.trans X6.warmed.alike) p6.1 f6.1 f6.2.1 f6.2.2.1, f6.2.1.trans bv3, by rw [X6.warmed.alike.findClass, f6.1]; exact bf3, by rw [f6.2.2.1, bs3]; simp, fun j hj => by rw [f6.2.2.2 j, if_pos (by omega)]; rfl, kp3.put p6 (Nat.le_refl _)⟩, by rw [p6.2.2, bh3, hh0]; simp⟩, fun fs hl => c8.trans (X8.areturnOut hexec rfl hret rfl (hb hbytes d58) hl)⟩
end Cmp3
namespace CodL
def yN : MethodName := ⟨"java/lang/StringUTF16", "coderFromArrayLen", "([BI)B"⟩
abbrev yB : ByteArray := jdk_52_method_15_code
theorem d0 : decode yB 0 = .ok (.iload_n 1, 1) := by decide +kernel
theorem d1 : decode yB 1 = .ok (.aload_n 0, 1) := by decide +kernel
theorem d2 : decode yB 2 = .ok (.arraylength, 1) := by decide +kernel
theorem d3 : decode yB 3 = .ok (.isub, 1) := by decide +kernel
theorem d4 : decode yB 4 = .ok (.bipush 31, 2) := by decide +kernel
theorem d6 : decode yB 6 = .ok (.iushr, 1) := by decide +kernel
theorem d7 : decode yB 7 = .ok (.i2b, 1) := by decide +kernel
theorem d8 : decode yB 8 = .ok (.ireturn, 1) := by decide +kernel
def site : List Cond := []
def tab : Cond := tabOf yN yB 2 (some .byte) site
def P (d : Addr) (B : Cell) (args : Array Value) (s : State) : Prop := args = #[.ref d, .int (Int32.ofNat B.slots.size)] ∧ Arr .byte d B s
def E (r : Option Value) (s u : State) : Prop := XT.PureE (some (.int 0)) r s u
/-- an array as long as the number of chars: LATIN1 -/
theorem law (l : Launch) (d : Addr) (B : Cell) : Law l yN 2 2 0 0 yB 2 (some .byte) site (P d B) E [] 0 0 := by
  refine Law.of_walk (plainFor_of_name (by decide +kernel)) (by decide +kernel) (by decide +kernel) (by decide) (fun _ _ h => by rw [h.1]; rfl) (fun _ U U' hal hh h => ⟨h.1, h.2.mv hal hh⟩) (fun r U U' V V' h1 hal h2 h => XT.PureE.mv r U U' V V' h1 hal h2 h) ?_
  intro p e s m args below meth c s₁ X0 hexec hbytes hml hret hlk hnm hown hh0 W hP
  obtain ⟨rfl, hB⟩ := hP
  have hB0 := hB.mv X0.warmed.alike hh0
  have c1 : Steps p.tables e below (s₁.setTop (entryFrame m #[.ref d, .int (Int32.ofNat B.slots.size)] 2)) (s₁.setTop (mkF m 0 #[.val (.ref d), .val (.int (Int32.ofNat B.slots.size))] [])) := entry rfl
  have c2 : Steps p.tables e below (s₁.setTop (entryFrame m #[.ref d, .int (Int32.ofNat B.slots.size)] 2)) (s₁.setTop (mkF m 2 #[.val (.ref d), .val (.int (Int32.ofNat B.slots.size))] [.ref d, .int (Int32.ofNat B.slots.size)])) := c1.trans (by
    refine XS.iloadN X0.here hexec rfl (hb hbytes d0) rfl ?_
    refine XS.aloadN X0.here hexec rfl (hb hbytes d1) rfl rfl ?_
    exact Steps.refl _)
  have c3 : Steps p.tables e below (s₁.setTop (entryFrame m #[.ref d, .int (Int32.ofNat B.slots.size)] 2)) (s₁.setTop (mkF m 8 #[.val (.ref d), .val (.int (Int32.ofNat B.slots.size))] [.int (lo8 (ushr (Int32.ofNat B.slots.size - Int32.ofNat B.slots.size) 31))])) := c2.trans (by
    refine X0.alen hexec hB0 rfl rfl (hb hbytes d2) ?_
    refine XS.isub X0.here hexec rfl (hb hbytes d3) rfl ?_
    refine bipushV X0.here hexec rfl 31 (hb hbytes d4) (by decide) ?_
    refine iushr X0.here hexec rfl (hb hbytes d6) rfl ?_
    refine i2b X0.here hexec rfl (hb hbytes d7) rfl ?_
    exact Steps.refl _)
  have e0 : lo8 (ushr (Int32.ofNat B.slots.size - Int32.ofNat B.slots.size) 31) = 0 := by rw [Int32.sub_self]; decide
  rw [e0] at c3
  exact ⟨s₁, some (.int 0), _, _, _, X0, rfl, rfl, rfl, (fun h => by cases h), ⟨rfl, hh0⟩, fun fs hl => c3.trans (X0.ireturnOut hexec hret rfl (Or.inr (Or.inr (Or.inl rfl))) (hb hbytes d8) hl)⟩
end CodL
/-- the String at a is Latin-1 over a new byte[] (the heap's one new cell): the low bytes of the len chars of A from o on; every cell but a is kept -/
def Got (a : Addr) (D : Cell) (fV fC : Field) (A : Cell) (o len : Nat) (r : Option Value) (s u : State) : Prop := r = none ∧ ∃ D' V : Cell, Blank "java/lang/String" a D' u ∧ Same D D' [fV.slot, fC.slot] ∧ D'.slots[fV.slot]? = some (.ref s.heap.size) ∧ D'.slots[fC.slot]? = some (.int 0) ∧ Arr .byte s.heap.size V u ∧ V.vm = .none ∧ u.vm.findClass "[B" = some V.cls ∧ V.slots.size = len ∧ (∀ j, j < len → V.slots[j]? = some (.int (lo8 (cv A (o + j))))) ∧ (∀ (y : Addr) (c : Cell), y ≠ a → s.heap[y]? = some c → u.heap[y]? = some c) ∧ u.heap.size = s.heap.size + 1
theorem Got.mv {a : Addr} {D A : Cell} {fV fC : Field} {o len : Nat} : ∀ r (U U' V V' : State), U'.heap = U.heap → V.vm.Alike V'.vm → V'.heap = V.heap → Got a D fV fC A o len r U V → Got a D fV fC A o len r U' V' :=
  fun r U U' V V' h1 hal h2 ⟨e0, D', X, a1, a2, a3, a4, a5, a6, a7, a8, a9, a10, a11⟩ => ⟨e0, D', X, a1.mv hal h2, a2, by rw [h1]; exact a3, a4, by rw [h1]; exact a5.mv hal h2, a6, by rw [hal.findClass]; exact a7, a8, a9, by rw [h1, h2]; exact a10, by rw [h1, h2]; exact a11⟩
namespace New4
def yN : MethodName := ⟨"java/lang/String", "<init>", "([CIILjava/lang/Void;)V"⟩
abbrev yB : ByteArray := jdk_42_method_149_code
theorem d0 : decode yB 0 = .ok (.aload_n 0, 1) := by decide +kernel
theorem d1 : decode yB 1 = .ok (.invokespecial 1, 3) := by decide +kernel
theorem d4 : decode yB 4 = .ok (.iload_n 3, 1) := by decide +kernel
theorem d5 : decode yB 5 = .ok (.ifCond (.ne) 22, 3) := by decide +kernel
theorem d27 : decode yB 27 = .ok (.getstatic 38, 3) := by decide +kernel
theorem d30 : decode yB 30 = .ok (.ifCond (.eq) 28, 3) := by decide +kernel
theorem d33 : decode yB 33 = .ok (.aload_n 1, 1) := by decide +kernel
theorem d34 : decode yB 34 = .ok (.iload_n 2, 1) := by decide +kernel
theorem d35 : decode yB 35 = .ok (.iload_n 3, 1) := by decide +kernel
theorem d36 : decode yB 36 = .ok (.invokestatic 177, 3) := by decide +kernel
theorem d39 : decode yB 39 = .ok (.astore 5, 2) := by decide +kernel
theorem d41 : decode yB 41 = .ok (.aload_n 0, 1) := by decide +kernel
theorem d42 : decode yB 42 = .ok (.aload 5, 2) := by decide +kernel
theorem d44 : decode yB 44 = .ok (.iload_n 3, 1) := by decide +kernel
theorem d45 : decode yB 45 = .ok (.invokestatic 47, 3) := by decide +kernel
theorem d48 : decode yB 48 = .ok (.putfield 15, 3) := by decide +kernel
theorem d51 : decode yB 51 = .ok (.aload_n 0, 1) := by decide +kernel
theorem d52 : decode yB 52 = .ok (.aload 5, 2) := by decide +kernel
theorem d54 : decode yB 54 = .ok (.putfield 9, 3) := by decide +kernel
theorem d57 : decode yB 57 = .ok (.return_, 1) := by decide +kernel
def site : List Cond := [.fieldLink "java/lang/String" 38 "java/lang/String" "COMPACT_STRINGS" "Z", Cmp3.tab, CodL.tab, .laysFinal "java/lang/String" "java/lang/String" "value" "[B", .fieldLink "java/lang/String" 9 "java/lang/String" "value" "[B", .laysFinal "java/lang/String" "java/lang/String" "coder" "B", .fieldLink "java/lang/String" 15 "java/lang/String" "coder" "B"] ++ objW "java/lang/String" 1 ++ staticW "java/lang/String" 177 Cmp3.yN ++ staticW "java/lang/String" 47 CodL.yN
def tab : Cond := tabOf yN yB 6 none site
def P (a : Addr) (D : Cell) (fV fC : Field) (b : Addr) (A : Cell) (z : Int32) (o len : Nat) (args : Array Value) (s : State) : Prop := args = #[.ref a, .ref b, .int (Int32.ofNat o), .int (Int32.ofNat len), .null] ∧ Blank "java/lang/String" a D s ∧ Found "java/lang/String" "value" "[B" fV s ∧ Found "java/lang/String" "coder" "B" fC s ∧ Ch b A s ∧ StaticIs s "java/lang/String" "COMPACT_STRINGS" "Z" (.int z) ∧ ¬ z = 0 ∧ 0 < len ∧ o + len ≤ A.slots.size ∧ len ≤ 536870912 ∧ ∀ i, i < len → ¬ 255 < cv A (o + i)
def E (a : Addr) (D : Cell) (fV fC : Field) (A : Cell) (o len : Nat) (r : Option Value) (s u : State) : Prop := Got a D fV fC A o len r s u
/-- len > 0, no char of the range above 255: a Latin-1 String of their low bytes -/
theorem law (l : Launch) (a : Addr) (D : Cell) (fV fC : Field) (b : Addr) (A : Cell) (z : Int32) (o len : Nat) : Law l yN 5 4 2 35 yB 6 none site (P a D fV fC b A z o len) (E a D fV fC A o len) [⟨a, fC.slot⟩, ⟨a, fV.slot⟩] 1 len := by
  refine Law.of_walk (plainFor_of_name (by decide +kernel)) (by decide +kernel) (by decide +kernel) (by decide) (fun _ _ h => by rw [h.1]; rfl) (fun _ U U' hal hh h => ⟨h.1, h.2.1.mv hal hh, h.2.2.1.al hal, h.2.2.2.1.al hal, h.2.2.2.2.1.mv hal hh, h.2.2.2.2.2.1.there hal hh, h.2.2.2.2.2.2⟩) (fun r U U' V V' h1 hal h2 h => Got.mv r U U' V V' h1 hal h2 h) ?_
  intro p e s m args below meth c s₁ X0 hexec hbytes hml hret hlk hnm hown hh0 W hP
  obtain ⟨rfl, hB, f1, f2, hA, s1, hz, l0, l1, l2, hp⟩ := hP
  have a31 := hA.1.2.2.2
  have c1 : Steps p.tables e below (s₁.setTop (entryFrame m #[.ref a, .ref b, .int (Int32.ofNat o), .int (Int32.ofNat len), .null] 6)) (s₁.setTop (mkF m 0 #[.val (.ref a), .val (.ref b), .val (.int (Int32.ofNat o)), .val (.int (Int32.ofNat len)), .val .null, .unset] [])) := entry rfl
  have c2 : Steps p.tables e below (s₁.setTop (entryFrame m #[.ref a, .ref b, .int (Int32.ofNat o), .int (Int32.ofNat len), .null] 6)) (s₁.setTop (mkF m 1 #[.val (.ref a), .val (.ref b), .val (.int (Int32.ofNat o)), .val (.int (Int32.ofNat len)), .val .null, .unset] [.ref a])) := c1.trans (by
    refine XS.aloadN X0.here hexec rfl (hb hbytes d0) rfl rfl ?_
    exact Steps.refl _)
  obtain ⟨T3, X3, q3, st3⟩ := X0.oinit hexec hown (wks W (objW "java/lang/String" 1)) (g := (mkF m 1 #[.val (.ref a), .val (.ref b), .val (.int (Int32.ofNat o)), .val (.int (Int32.ofNat len)), .val .null, .unset] [.ref a])) rfl (by rw [hml]; rfl) (rest := []) rfl (hb hbytes d1) (W := 0) (by show 2 * 0 + 0 ≤ _; decide) (Nat.le_of_ble_eq_true rfl) (Nat.le_of_ble_eq_true rfl)
  have hh3 := q3.trans hh0
  have c4 : Steps p.tables e below (s₁.setTop (entryFrame m #[.ref a, .ref b, .int (Int32.ofNat o), .int (Int32.ofNat len), .null] 6)) (T3.setTop (mkF m 27 #[.val (.ref a), .val (.ref b), .val (.int (Int32.ofNat o)), .val (.int (Int32.ofNat len)), .val .null, .unset] [])) := (c2.trans (st3 _ (Steps.refl _))).trans (by
    refine XS.iloadN X3.here hexec rfl (hb hbytes d4) rfl ?_
    refine XS.ifYes X3.here hexec rfl (pc0 := 5) rfl (hb hbytes d5) rfl (i0_ne_t (nz32 (by omega) l0)) (by decide) rfl ?_
    exact Steps.refl _)
  obtain ⟨T5, X5, q5, st5⟩ := X3.sget hexec hown (wk W (.fieldLink "java/lang/String" 38 "java/lang/String" "COMPACT_STRINGS" "Z")) s1 (fun _ _ h => by rw [hh3]; exact h) (g := (mkF m 27 #[.val (.ref a), .val (.ref b), .val (.int (Int32.ofNat o)), .val (.int (Int32.ofNat len)), .val .null, .unset] [])) rfl (hb hbytes d27)
  have hh5 := q5.trans hh3
  have c6 : Steps p.tables e below (s₁.setTop (entryFrame m #[.ref a, .ref b, .int (Int32.ofNat o), .int (Int32.ofNat len), .null] 6)) (T5.setTop (mkF m 30 #[.val (.ref a), .val (.ref b), .val (.int (Int32.ofNat o)), .val (.int (Int32.ofNat len)), .val .null, .unset] [.int z])) := c4.trans (st5 _ (Steps.refl _))
  have c7 : Steps p.tables e below (s₁.setTop (entryFrame m #[.ref a, .ref b, .int (Int32.ofNat o), .int (Int32.ofNat len), .null] 6)) (T5.setTop (mkF m 36 #[.val (.ref a), .val (.ref b), .val (.int (Int32.ofNat o)), .val (.int (Int32.ofNat len)), .val .null, .unset] [.int (Int32.ofNat len), .int (Int32.ofNat o), .ref b])) := c6.trans (by
    refine XS.ifNo X5.here hexec rfl (hb hbytes d30) rfl (i0_eq_f hz) ?_
    refine XS.aloadN X5.here hexec rfl (hb hbytes d33) rfl rfl ?_
    refine XS.iloadN X5.here hexec rfl (hb hbytes d34) rfl ?_
    refine XS.iloadN X5.here hexec rfl (hb hbytes d35) rfl ?_
    exact Steps.refl _)
  obtain ⟨v8, T8, X8, E8, g8⟩ := X5.callS hexec (Cmp3.law l b A o len) hown (wks W (staticW "java/lang/String" 177 Cmp3.yN)) (wk W Cmp3.tab) (W := 0) (Nat.le_of_ble_eq_true rfl) (Nat.le_of_ble_eq_true rfl) (Nat.le_refl _) (by show 0 + len ≤ len; omega) (g := (mkF m 36 #[.val (.ref a), .val (.ref b), .val (.int (Int32.ofNat o)), .val (.int (Int32.ofNat len)), .val .null, .unset] [.int (Int32.ofNat len), .int (Int32.ofNat o), .ref b])) rfl (by rw [hml]; rfl) c7 (argsL := [.ref b, .int (Int32.ofNat o), .int (Int32.ofNat len)]) (rest := []) rfl rfl (by show 2 * 0 + 0 ≤ _; decide) (hb hbytes d36) (⟨rfl, hA.mv X5.warmed.alike hh5, l1, l2, hp⟩)
  obtain ⟨e8, z8⟩ := E8
  obtain ⟨rfl, N, n1, n2, n3, n4, n5, n6⟩ := NewArr.mv _ T5 s _ _ hh5.symm (Vm.Alike.refl _) rfl e8
  rw [hh5] at z8
  have hB1 := hB.keep X8.warmed.alike (n6 _ _ hB.1)
  have hne : s.heap.size ≠ a := (Nat.ne_of_lt (Array.getElem?_eq_some_iff.mp hB.1).1).symm
  have c9 : Steps p.tables e below (s₁.setTop (entryFrame m #[.ref a, .ref b, .int (Int32.ofNat o), .int (Int32.ofNat len), .null] 6)) (T8.setTop (mkF m 39 #[.val (.ref a), .val (.ref b), .val (.int (Int32.ofNat o)), .val (.int (Int32.ofNat len)), .val .null, .unset] [.ref s.heap.size])) := g8
  have c10 : Steps p.tables e below (s₁.setTop (entryFrame m #[.ref a, .ref b, .int (Int32.ofNat o), .int (Int32.ofNat len), .null] 6)) (T8.setTop (mkF m 45 #[.val (.ref a), .val (.ref b), .val (.int (Int32.ofNat o)), .val (.int (Int32.ofNat len)), .val .null, .val (.ref s.heap.size)] [.int (Int32.ofNat N.slots.size), .ref s.heap.size, .ref a])) := by
    have hc : Steps p.tables e below (s₁.setTop (entryFrame m #[.ref a, .ref b, .int (Int32.ofNat o), .int (Int32.ofNat len), .null] 6)) (T8.setTop (mkF m 45 #[.val (.ref a), .val (.ref b), .val (.int (Int32.ofNat o)), .val (.int (Int32.ofNat len)), .val .null, .val (.ref s.heap.size)] [.int (Int32.ofNat len), .ref s.heap.size, .ref a])) := c9.trans (by
      refine XS.astore X8.here hexec rfl (hb hbytes d39) rfl rfl rfl ?_
      refine XS.aloadN X8.here hexec rfl (hb hbytes d41) rfl rfl ?_
      refine XS.aload X8.here hexec rfl (hb hbytes d42) rfl rfl ?_
      refine XS.iloadN X8.here hexec rfl (hb hbytes d44) rfl ?_
      exact Steps.refl _)
    rw [n4]; exact hc
  obtain ⟨v11, T11, X11, E11, g11⟩ := X8.callS hexec (CodL.law l s.heap.size N) hown (wks W (staticW "java/lang/String" 47 CodL.yN)) (wk W CodL.tab) (W := 1) (Nat.le_of_ble_eq_true rfl) (Nat.le_of_ble_eq_true rfl) (Nat.le_refl _) (by show 0 + len + 0 ≤ len; omega) (g := (mkF m 45 #[.val (.ref a), .val (.ref b), .val (.int (Int32.ofNat o)), .val (.int (Int32.ofNat len)), .val .null, .val (.ref s.heap.size)] [.int (Int32.ofNat N.slots.size), .ref s.heap.size, .ref a])) rfl (by rw [hml]; rfl) c10 (argsL := [.ref s.heap.size, .int (Int32.ofNat N.slots.size)]) (rest := [.ref a]) rfl rfl (by show 2 * 0 + (1 + 0) ≤ _; decide) (hb hbytes d45) (⟨rfl, n1⟩)
  obtain ⟨rfl, q11⟩ := E11
  have hB11 := hB1.mv (X8.warmed.alike.symm.trans X11.warmed.alike) q11
  have c12 : Steps p.tables e below (s₁.setTop (entryFrame m #[.ref a, .ref b, .int (Int32.ofNat o), .int (Int32.ofNat len), .null] 6)) (T11.setTop (mkF m 48 #[.val (.ref a), .val (.ref b), .val (.int (Int32.ofNat o)), .val (.int (Int32.ofNat len)), .val .null, .val (.ref s.heap.size)] [.int 0, .ref a])) := g11
  obtain ⟨T13, X13, p13, bl13, sl13, st13⟩ := X11.finit hexec hown (wk W (.fieldLink "java/lang/String" 15 "java/lang/String" "coder" "B")) (Or.inr ⟨_, (wk W (.laysFinal "java/lang/String" "java/lang/String" "coder" "B"))⟩) (Or.inl ⟨rfl, hnm⟩) f2 (Or.inl rfl) hB11 (t := .byte) (by decide +kernel) rfl (g := (mkF m 48 #[.val (.ref a), .val (.ref b), .val (.int (Int32.ofNat o)), .val (.int (Int32.ofNat len)), .val .null, .val (.ref s.heap.size)] [.int 0, .ref a])) rfl (rest := []) rfl (hb hbytes d48)
  have c14 : Steps p.tables e below (s₁.setTop (entryFrame m #[.ref a, .ref b, .int (Int32.ofNat o), .int (Int32.ofNat len), .null] 6)) (T13.setTop (mkF m 54 #[.val (.ref a), .val (.ref b), .val (.int (Int32.ofNat o)), .val (.int (Int32.ofNat len)), .val .null, .val (.ref s.heap.size)] [.ref s.heap.size, .ref a])) := (c12.trans (st13 _ (Steps.refl _))).trans (by
    refine XS.aloadN X13.here hexec rfl (hb hbytes d51) rfl rfl ?_
    refine XS.aload X13.here hexec rfl (hb hbytes d52) rfl rfl ?_
    exact Steps.refl _)
  obtain ⟨T15, X15, p15, bl15, sl15, st15⟩ := X13.finit hexec hown (wk W (.fieldLink "java/lang/String" 9 "java/lang/String" "value" "[B")) (Or.inr ⟨_, (wk W (.laysFinal "java/lang/String" "java/lang/String" "value" "[B"))⟩) (Or.inl ⟨rfl, hnm⟩) f1 (Or.inl rfl) bl13 (t := (.array .byte)) (by decide +kernel) rfl (g := (mkF m 54 #[.val (.ref a), .val (.ref b), .val (.int (Int32.ofNat o)), .val (.int (Int32.ofNat len)), .val .null, .val (.ref s.heap.size)] [.ref s.heap.size, .ref a])) rfl (rest := []) rfl (hb hbytes d54)
  have c16 : Steps p.tables e below (s₁.setTop (entryFrame m #[.ref a, .ref b, .int (Int32.ofNat o), .int (Int32.ofNat len), .null] 6)) (T15.setTop (mkF m 57 #[.val (.ref a), .val (.ref b), .val (.int (Int32.ofNat o)), .val (.int (Int32.ofNat len)), .val .null, .val (.ref s.heap.size)] [])) := c14.trans (st15 _ (Steps.refl _))
  have ap := apart (Or.inr ⟨_, (wk W (.laysFinal "java/lang/String" "java/lang/String" "value" "[B"))⟩) (Or.inr ⟨_, (wk W (.laysFinal "java/lang/String" "java/lang/String" "coder" "B"))⟩) f1 f2 (t₁ := .array .byte) (t₂ := .byte) (by decide +kernel) (by decide +kernel) (by decide)
  have al := X8.warmed.alike.symm.trans X15.warmed.alike
  have n7 : T11.heap[s.heap.size]? = some N := by rw [q11]; exact n1.1
  exact ⟨T15, none, _, _, _, X15, by simp, rfl, by omega, (fun _ => rfl), ⟨rfl, _, N, bl15, ((Same.refl D _).set _ (by simp)).set _ (by simp), sl15, (Cell.slots_setSlot_ne _ ap).trans sl13, n1.keep al (p15.other hne (p13.other hne n7)), n2, by rw [al.findClass]; exact n3, n4, n5, fun y c h1 h2 => p15.other h1 (p13.other h1 (by rw [q11]; exact n6 y c h2)), by rw [p15.2.2, p13.2.2, q11]; exact z8⟩, fun fs hl => c16.trans (X15.returnOut hexec hret (hb hbytes d57) hl)⟩
end New4
namespace New1
def yN : MethodName := ⟨"java/lang/String", "<init>", "([C)V"⟩
abbrev yB : ByteArray := jdk_42_method_3_code
theorem d0 : decode yB 0 = .ok (.aload_n 0, 1) := by decide +kernel
theorem d1 : decode yB 1 = .ok (.aload_n 1, 1) := by decide +kernel
theorem d2 : decode yB 2 = .ok (.iconst 0, 1) := by decide +kernel
theorem d3 : decode yB 3 = .ok (.aload_n 1, 1) := by decide +kernel
theorem d4 : decode yB 4 = .ok (.arraylength, 1) := by decide +kernel
theorem d5 : decode yB 5 = .ok (.aconst_null, 1) := by decide +kernel
theorem d6 : decode yB 6 = .ok (.invokespecial 27, 3) := by decide +kernel
theorem d9 : decode yB 9 = .ok (.return_, 1) := by decide +kernel
def site : List Cond := [New4.tab] ++ initW "java/lang/String" 27 New4.yN
def tab : Cond := tabOf yN yB 2 none site
def P (a : Addr) (D : Cell) (fV fC : Field) (b : Addr) (A : Cell) (z : Int32) (args : Array Value) (s : State) : Prop := args = #[.ref a, .ref b] ∧ Blank "java/lang/String" a D s ∧ Found "java/lang/String" "value" "[B" fV s ∧ Found "java/lang/String" "coder" "B" fC s ∧ Ch b A s ∧ StaticIs s "java/lang/String" "COMPACT_STRINGS" "Z" (.int z) ∧ ¬ z = 0 ∧ 0 < A.slots.size ∧ A.slots.size ≤ 536870912 ∧ ∀ i, i < A.slots.size → ¬ 255 < cv A i
def E (a : Addr) (D : Cell) (fV fC : Field) (A : Cell) (r : Option Value) (s u : State) : Prop := Got a D fV fC A 0 A.slots.size r s u
/-- new String(chars), not empty, no char above 255: a Latin-1 String of their low bytes -/
theorem law (l : Launch) (a : Addr) (D : Cell) (fV fC : Field) (b : Addr) (A : Cell) (z : Int32) : Law l yN 2 1 3 52 yB 2 none site (P a D fV fC b A z) (E a D fV fC A) [⟨a, fC.slot⟩, ⟨a, fV.slot⟩] 1 A.slots.size := by
  refine Law.of_walk (plainFor_of_name (by decide +kernel)) (by decide +kernel) (by decide +kernel) (by decide) (fun _ _ h => by rw [h.1]; rfl) (fun _ U U' hal hh h => ⟨h.1, h.2.1.mv hal hh, h.2.2.1.al hal, h.2.2.2.1.al hal, h.2.2.2.2.1.mv hal hh, h.2.2.2.2.2.1.there hal hh, h.2.2.2.2.2.2⟩) (fun r U U' V V' h1 hal h2 h => Got.mv r U U' V V' h1 hal h2 h) ?_
  intro p e s m args below meth c s₁ X0 hexec hbytes hml hret hlk hnm hown hh0 W hP
  obtain ⟨rfl, hB, f1, f2, hA, s1, hz, l0, l2, hp⟩ := hP
  have c1 : Steps p.tables e below (s₁.setTop (entryFrame m #[.ref a, .ref b] 2)) (s₁.setTop (mkF m 0 #[.val (.ref a), .val (.ref b)] [])) := entry rfl
  have c2 : Steps p.tables e below (s₁.setTop (entryFrame m #[.ref a, .ref b] 2)) (s₁.setTop (mkF m 6 #[.val (.ref a), .val (.ref b)] [.null, .int (Int32.ofNat A.slots.size), .int 0, .ref b, .ref a])) := c1.trans (by
    refine XS.aloadN X0.here hexec rfl (hb hbytes d0) rfl rfl ?_
    refine XS.aloadN X0.here hexec rfl (hb hbytes d1) rfl rfl ?_
    refine iconstV X0.here hexec rfl 0 (hb hbytes d2) (by decide) ?_
    refine XS.aloadN X0.here hexec rfl (hb hbytes d3) rfl rfl ?_
    refine X0.alen hexec (hA.1.mv X0.warmed.alike hh0) rfl rfl (hb hbytes d4) ?_
    refine XS.aconstNull X0.here hexec rfl (hb hbytes d5) ?_
    exact Steps.refl _)
  obtain ⟨v3, T3, X3, E3, g3⟩ := X0.callN hexec (New4.law l a D fV fC b A z 0 A.slots.size) rfl hown (wks W (initW "java/lang/String" 27 New4.yN)) (W New4.tab (by simp only [site, List.mem_cons, List.mem_append, true_or, or_true])) (W := 0) (Nat.le_of_ble_eq_true rfl) (Nat.le_of_ble_eq_true rfl) (Nat.le_refl _) (by show 0 + A.slots.size ≤ A.slots.size; omega) (g := (mkF m 6 #[.val (.ref a), .val (.ref b)] [.null, .int (Int32.ofNat A.slots.size), .int (Int32.ofNat 0), .ref b, .ref a])) rfl (by rw [hml]; rfl) c2 (argsL := [.ref b, .int (Int32.ofNat 0), .int (Int32.ofNat A.slots.size), .null]) (rest := []) rfl rfl (by show 2 * 0 + 0 ≤ _; decide) (hb hbytes d6) (⟨rfl, hB.mv X0.warmed.alike hh0, f1.al X0.warmed.alike, f2.al X0.warmed.alike, hA.mv X0.warmed.alike hh0, s1.there X0.warmed.alike hh0, hz, l0, by omega, l2, fun i hi => by rw [Nat.zero_add]; exact hp i hi⟩)
  have e0 := Got.mv _ s₁ s _ _ hh0.symm (Vm.Alike.refl _) rfl E3
  obtain rfl := e0.1
  have c4 : Steps p.tables e below (s₁.setTop (entryFrame m #[.ref a, .ref b] 2)) (T3.setTop (mkF m 9 #[.val (.ref a), .val (.ref b)] [])) := g3
  exact ⟨T3, none, _, _, _, X3, by simp, rfl, by omega, (fun _ => rfl), e0, fun fs hl => c4.trans (X3.returnOut hexec hret (hb hbytes d9) hl)⟩
theorem pays {l : Launch} {R : Room} {p : Program} {e : Env} {below : List Frame} {s : State} {sargs : Array Value} {len W : Nat} (a : Addr) (D : Cell) (fV fC : Field) (b : Addr) (A : Cell) (z : Int32) (htab : tab.before sargs s = true) (hfr : 4 ≤ R.frames) (hlo : W + 65 ≤ R.locals) :
    Back l R p e below s sargs yN len W (fun A₁ a₁ => A₁.cells + 1 ≤ R.cells ∧ A₁.slots + A.slots.size ≤ R.slots ∧ P a D fV fC b A z a₁ A₁.U) (fun A₁ _ v₁ B₁ => E a D fV fC A v₁ A₁.U B₁.U ∧ B₁.locs = A₁.locs ++ [⟨a, fC.slot⟩, ⟨a, fV.slot⟩] ∧ B₁.cells = A₁.cells + 1 ∧ B₁.slots = A₁.slots + A.slots.size) :=
  (law l a D fV fC b A z).pays htab hfr (by omega)
end New1
/-- the byte, read back as charAt reads it, is the char -/
theorem lo8_mask {x : Int32} (h0 : ¬ x < 0) (h1 : ¬ 255 < x) : lo8 x &&& 255 = x := by
  have t : ∀ k : Fin 256, lo8 (Int32.ofNat k.val) &&& 255 = Int32.ofNat k.val := by decide +kernel
  rw [Int32.lt_iff_toInt_lt] at h0 h1
  have e0 : (0 : Int32).toInt = 0 := rfl
  have e1 : (255 : Int32).toInt = 255 := rfl
  obtain ⟨k, hk⟩ : ∃ k : Nat, x.toInt = k := ⟨x.toInt.toNat, by omega⟩
  have hx : x = Int32.ofNat k := Int32.toInt_inj.mp (by rw [hk, Int32.toInt_ofNat_small (by omega)])
  rw [hx]
  exact t ⟨k, by omega⟩
end StrChars
namespace StrChars.Road
open Jvm Sem ClassFile Op Lib Jvm.Stand Jvm.Free Jvm.Free.XT
open Jvm.Lib.Cold (StaticIs)
abbrev ST : String := "java/lang/String"
/-- every table word that New1's law asks, flat -/
abbrev words : List Jvm.Cond := [.code New1.yN New1.yB 2 none, .initialized ST, .methodLink ST 27 New4.yN, .instanceMethod New4.yN,
  .code New4.yN New4.yB 6 none, .fieldLink ST 38 ST "COMPACT_STRINGS" "Z", .laysFinal ST ST "value" "[B", .fieldLink ST 9 ST "value" "[B", .laysFinal ST ST "coder" "B", .fieldLink ST 15 ST "coder" "B",
  .methodLink ST 1 Lib.objectInit, .instanceMethod Lib.objectInit, .code Lib.objectInit ⟨#[0xb1]⟩ 1 none, .methodLink ST 177 Cmp3.yN, .static Cmp3.yN, .methodLink ST 47 CodL.yN, .static CodL.yN,
  .code Cmp3.yN Cmp3.yB 6 (some (.array .byte)), .initialized U16, .arrayClass .byte, .methodLink U16 115 Cmp5.yN, .static Cmp5.yN, .code Cmp5.yN Cmp5.yB 7 (some .int), .code CodL.yN CodL.yB 2 (some .byte)]
theorem tab_of {a : Array Value} {s : State} (h : ∀ w ∈ words, w.before a s = true) : New1.tab.before a s = true := by
  have h5 : Cmp5.tab.before a s = true := unparts (wk h (.code Cmp5.yN Cmp5.yB 7 (some .int))) (wks h (.initialized Cmp5.yN.cls :: Cmp5.site))
  have hc : CodL.tab.before a s = true := unparts (wk h (.code CodL.yN CodL.yB 2 (some .byte))) (wks h (.initialized CodL.yN.cls :: CodL.site))
  have q5 : ∀ w ∈ Cmp5.tab :: words, w.before a s = true := fun w hw => (List.mem_cons.mp hw).elim (fun e => e ▸ h5) (h w)
  have h3 : Cmp3.tab.before a s = true := unparts (wk q5 (.code Cmp3.yN Cmp3.yB 6 (some (.array .byte)))) (wks q5 (.initialized Cmp3.yN.cls :: Cmp3.site))
  have q3 : ∀ w ∈ Cmp3.tab :: CodL.tab :: words, w.before a s = true := fun w hw => (List.mem_cons.mp hw).elim (fun e => e ▸ h3) fun hw => (List.mem_cons.mp hw).elim (fun e => e ▸ hc) (h w)
  have h4 : New4.tab.before a s = true := unparts (wk q3 (.code New4.yN New4.yB 6 none)) (wks q3 (.initialized New4.yN.cls :: New4.site))
  have q4 : ∀ w ∈ New4.tab :: words, w.before a s = true := fun w hw => (List.mem_cons.mp hw).elim (fun e => e ▸ h4) (h w)
  exact unparts (wk q4 (.code New1.yN New1.yB 2 none)) (wks q4 (.initialized New1.yN.cls :: New1.site))
/-- the words ride from the start Z to the walk's own state -/
theorem moved {Z s : State} {a0 args : Array Value} (hZ : Z.Warmed39 s.vm) (hw : ∀ d ∈ words, d.before a0 Z = true) : ∀ d ∈ words, d.before args s = true := fun d hd => by
  have q := hw d hd
  have t : ∀ d ∈ words, d = .arrayClass .byte ∨ (d.onTables && d.keepsFace) = true := by decide +kernel
  rcases t d hd with rfl | t
  · exact RoadKit.mvA hZ q
  · exact RoadKit.mv hZ q t
/-- WHAT COMES BACK, over the tables of the start Z: h the heap at the call, h' behind it -/
def Q (Z : State) (x : Addr) (A : Cell) (h : Heap) (v : Option Value) (h' : Heap) (L : List Loc) : Prop := v = none ∧ (∀ y ∈ L, y.base = x) ∧ RoadKit.Keep h h' [x] ∧ h'.size = h.size + 1 ∧ RoadKit.Exa Z h' x ST ∧ RoadKit.Fld Z h' x ST "value" "[B" (.ref h.size) ∧ RoadKit.Fld Z h' x ST "coder" "B" (.int 0) ∧
  (∃ V : Cell, RoadKit.Arr Z h' h.size V .byte ∧ V.vm = .none ∧ Z.vm.findClass "[B" = some V.cls ∧ V.slots.size = A.slots.size ∧ ∀ j, j < A.slots.size → V.slots[j]? = some (.int (lo8 (cv A j)))) ∧
  ∀ (O n d : String) (w : Value), RoadKit.Fld Z h x O n d w → RoadKit.slotOf Z O n d ≠ RoadKit.slotOf Z ST "value" "[B" → RoadKit.slotOf Z O n d ≠ RoadKit.slotOf Z ST "coder" "B" → RoadKit.Fld Z h' x O n d w
/-- **new String(chars) AT A CALL, IN THE ROAD'S FORM**: for specialBack behind newO: x the fresh String, b the char[] with the cell A -/
theorem back {p : Program} {l : Launch} {e : Env} {R : Room} {s : State} {args : Array Value} {below : List Frame} {len W : Nat} {Z : State} {a0 : Array Value} {h : Heap} (hZ : Z.Warmed39 s.vm) (hw : ∀ d ∈ words, d.before a0 Z = true) {kI : Nat} (wi : (Jvm.Cond.instantiable ST kI).before a0 Z = true)
    {x b : Addr} {A : Cell} {z : Int32} {v0 c0 : Value} (E : RoadKit.Exa Z h x ST) (V : RoadKit.Fld Z h x ST "value" "[B" v0) (C : RoadKit.Fld Z h x ST "coder" "B" c0) (K : RoadKit.Arr Z h b A .char) (hty : Typed .char A) (S : RoadKit.Sta Z h ST "COMPACT_STRINGS" "Z" (.int z)) (hz : ¬ z = 0)
    (l0 : 0 < A.slots.size) (l2 : A.slots.size ≤ 536870912) (hp : ∀ i, i < A.slots.size → ¬ 255 < cv A i) (hfr : 4 ≤ R.frames) (hlo : W + 65 ≤ R.locals) :
    Back l R p e below s args New1.yN len W (fun P a => a = #[.ref x, .ref b] ∧ P.U.heap = h ∧ P.cells + 1 ≤ R.cells ∧ P.slots + A.slots.size ≤ R.slots)
      (fun P _ v B => ∃ L, Q Z x A h v B.U.heap L ∧ B.locs = P.locs ++ L ∧ B.cells = P.cells + 1 ∧ B.slots = P.slots + A.slots.size) := by
  intro m meth c P g ig mk a X hg hsize hdg hW hn hp'
  obtain ⟨rfl, rfl, r1, r2⟩ := hp'
  have al : Z.vm.Alike P.U.vm := hZ.alike.trans X.warmed.alike
  obtain ⟨D, cfV, kV, iV, fV, hD, gV, stV, knV, obV, asV, slV⟩ := id V
  obtain ⟨D', cfC, kC, iC, fC, hD', gC, stC, -, -, asC, slC⟩ := id C
  cases hD.symm.trans hD'
  obtain ⟨D2, kD, e1, e2, e3, e4, e5⟩ := id E
  cases hD.symm.trans e1
  obtain ⟨c2, k2, i1, i2, i3, -⟩ := Cond.instantiable_spec wi
  cases e2.symm.trans i1
  cases e3.symm.trans i2
  obtain ⟨kU, u1, u2⟩ := al.2.2 _ _ e3
  have hB : Blank ST x D P.U := ⟨hD, ⟨knV, fun q hq => by rw [hq] at obV; cases obV⟩, by rw [al.findClass]; exact e2, kU, u1, by rw [u2]; exact i3, by rw [u2]; exact e5 i3⟩
  have F1 : Found ST "value" "[B" fV P.U := ⟨SBG.found_only al ⟨cfV, kV, iV, gV⟩, stV⟩
  have F2 : Found ST "coder" "B" fC P.U := ⟨SBG.found_only al ⟨cfC, kC, iC, gC⟩, stC⟩
  have hA : Ch b A P.U := ⟨⟨K.1, State.isArrayOf_alike al K.2.1, K.2.2, by omega⟩, hty⟩
  have hS : StaticIs P.U ST "COMPACT_STRINGS" "Z" (.int z) := by
    obtain ⟨cfS, iS, kS, fS, st, cS, t1, t2, t3, t4, t5, t6, t7⟩ := S
    exact StaticIs.there (s := { Z with heap := P.U.heap }) ⟨cfS, iS, kS, fS, st, cS, t1, t2, t3, t4, t5, (fun q => by rw [q] at t6; cases t6), t7⟩ al rfl
  obtain ⟨v, B, X', ⟨⟨hv, E', V', q1, q2, q3, q4, q5, q6, q7, q8, q9, q10, q11⟩, hl, hc, hs⟩, st⟩ := New1.pays x D fV fC b A z (tab_of (moved hZ hw)) hfr hlo m meth c P g ig mk _ X hg hsize hdg hW hn ⟨r1, r2, rfl, hB, F1, F2, hA, hS, hz, l0, l2, hp⟩
  have al' : Z.vm.Alike B.U.vm := hZ.alike.trans X'.warmed.alike
  have hsz : E'.slots.size = D.slots.size := by
    obtain ⟨-, -, -, kB, w1, w2, w3⟩ := q1
    obtain ⟨kB', y1, y2⟩ := al'.2.2 _ _ e3
    rw [q2.2.1] at w1
    cases w1.symm.trans y1
    rw [w3, e5 i3, y2]
  refine ⟨v, B, X', ⟨_, ⟨hv, ?_, ⟨by omega, fun y cy hy hn' => q10 y cy (by simpa using hn') hy, fun y cy hy => ?_⟩, q11, ⟨E', _, q1.1, by rw [q2.2.1]; exact e2, by rw [q2.2.1]; exact e3, by rw [q2.1]; exact obV, fun _ => by rw [hsz]; exact e5 i3⟩,
    ⟨E', cfV, kV, iV, fV, q1.1, gV, stV, by rw [q2.1]; exact knV, by rw [q2.1]; exact obV, by rw [q2.2.1]; exact asV, q3⟩, ⟨E', cfC, kC, iC, fC, q1.1, gC, stC, by rw [q2.1]; exact knV, by rw [q2.1]; exact obV, by rw [q2.2.1]; exact asC, q4⟩,
    ⟨V', ⟨q5.1, State.isArrayOf_alike al'.symm q5.2.1, q5.2.2.1⟩, q6, by rw [← al'.findClass]; exact q7, q8, fun j hj => by have := q9 j hj; rwa [Nat.zero_add] at this⟩, fun O n d w F n1 n2 => ?_⟩, hl, hc, hs⟩, st⟩
  · intro y hy
    simp only [List.mem_cons, List.not_mem_nil, or_false] at hy
    rcases hy with rfl | rfl <;> rfl
  · by_cases q : y = x
    · subst q
      cases hD.symm.trans hy
      exact ⟨E', q1.1, q2.2.1, q2.1, hsz⟩
    · exact ⟨cy, q10 y cy q hy, rfl, rfl, rfl⟩
  · obtain ⟨D3, cf, k, i, f, g1, g2, g3, g4, g5, g6, g7⟩ := F
    cases hD.symm.trans g1
    simp only [RoadKit.slotOf, g2, gV, gC, Option.map_some, Option.getD_some] at n1 n2
    exact ⟨E', cf, k, i, f, q1.1, g2, g3, by rw [q2.1]; exact g4, by rw [q2.1]; exact g5, by rw [q2.2.1]; exact g6, by rw [q2.2.2 f.slot (by simp [n1, n2])]; exact g7⟩
end StrChars.Road
namespace StrChars.Road
open Jvm Sem ClassFile Op Lib Jvm.Stand Jvm.Free Jvm.Free.XT
/-- WHAT COMES BACK, the byte[] as a list of values -/
def QA (Z : State) (x : Addr) (zn : Int32) (cs : List Int32) (h : Heap) (v : Option Value) (h' : Heap) (L : List Loc) : Prop := v = none ∧ (∀ y ∈ L, y.base = x) ∧ RoadKit.Keep h h' [x] ∧ h'.size = h.size + 1 ∧ RoadKit.Exa Z h' x ST ∧ RoadKit.Fld Z h' x ST "value" "[B" (.ref h.size) ∧ RoadKit.Fld Z h' x ST "coder" "B" (.int 0) ∧
  (∃ kb, Z.vm.findClass "[B" = some kb ∧ RoadKit.Arv Z h' h.size kb .byte zn (cs.map fun c => .int (lo8 c)) (.int 0)) ∧
  ∀ (O n d : String) (w : Value), RoadKit.Fld Z h x O n d w → RoadKit.slotOf Z O n d ≠ RoadKit.slotOf Z ST "value" "[B" → RoadKit.slotOf Z O n d ≠ RoadKit.slotOf Z ST "coder" "B" → RoadKit.Fld Z h' x O n d w
/-- **new String(chars) AT A CALL, THE ARRAYS AS LISTS**: the char[] at b holds cs, not empty, no char above 255 -/
theorem backArv {p : Program} {l : Launch} {e : Env} {R : Room} {s : State} {args : Array Value} {below : List Frame} {len W : Nat} {Z : State} {a0 : Array Value} {h : Heap} (hZ : Z.Warmed39 s.vm) (hw : ∀ d ∈ words, d.before a0 Z = true) {kI : Nat} (wi : (Jvm.Cond.instantiable ST kI).before a0 Z = true)
    {x b : Addr} {k : ClassId} {zn z : Int32} {cs : List Int32} {dv v0 c0 : Value} (E : RoadKit.Exa Z h x ST) (V : RoadKit.Fld Z h x ST "value" "[B" v0) (C : RoadKit.Fld Z h x ST "coder" "B" c0) (K : RoadKit.Arv Z h b k .char zn (cs.map Value.int) dv) (S : RoadKit.Sta Z h ST "COMPACT_STRINGS" "Z" (.int z)) (hz : ¬ z = 0)
    (hlen : zn.toNatClampNeg = cs.length) (h0 : 0 < cs.length) (hbig : cs.length ≤ 536870912) (hall : ∀ c ∈ cs, ¬ 255 < c) (hfr : 4 ≤ R.frames) (hlo : W + 65 ≤ R.locals) :
    Back l R p e below s args New1.yN len W (fun P a => a = #[.ref x, .ref b] ∧ P.U.heap = h ∧ P.cells + 1 ≤ R.cells ∧ P.slots + cs.length ≤ R.slots)
      (fun P _ v B => ∃ L, QA Z x zn cs h v B.U.heap L ∧ B.locs = P.locs ++ L ∧ B.cells = P.cells + 1 ∧ B.slots = P.slots + cs.length) := by
  obtain ⟨A, K1, K2, K3, K4, K5, K6⟩ := K
  have e : A.slots.size = cs.length := K3.trans hlen
  have hat : ∀ (i : Nat) (hi : i < cs.length), A.slots[i]? = some (.int cs[i]) := fun i hi => by rw [K5 i (by omega)]; simp [List.getD_eq_getElem?_getD, hi]
  have hcv : ∀ (i : Nat) (hi : i < cs.length), cv A i = cs[i] := fun i hi => by unfold cv; rw [hat i hi]
  have hty : Typed .char A := fun i v hv => by
    have hi : i < A.slots.size := (Array.getElem?_eq_some_iff.mp hv).1
    have q := K5 i hi
    rw [hv] at q
    rw [Option.some.inj q]
    exact K6 i hi
  refine Back.mono (back hZ hw wi E V C K1 hty S hz (by omega) (by omega) (fun i hi => by rw [hcv i (by omega)]; exact hall _ (List.getElem_mem _)) hfr hlo) (fun P a hp => ⟨hp.1, hp.2.1, hp.2.2.1, by rw [e]; exact hp.2.2.2⟩) (fun P a v B hp hq => ?_)
  obtain ⟨L, ⟨q1, q2, q3, q4, q5, q6, q7, ⟨V', v1, v2, v3, v4, v5⟩, q9⟩, hl, hc, hs⟩ := hq
  refine ⟨L, ⟨q1, q2, q3, q4, q5, q6, q7, ⟨V'.cls, v3, V', v1, rfl, by rw [v4, e, hlen], K4, fun i hi => ?_, fun i hi => ?_⟩, q9⟩, hl, hc, by rw [hs, e]⟩
  · have hi' : i < cs.length := by omega
    rw [v5 i (by omega), hcv i hi']; simp [List.getD_eq_getElem?_getD, hi']
  · have hi' : i < cs.length := by omega
    simp only [List.getD_eq_getElem?_getD, List.getElem?_map, List.getElem?_eq_getElem hi', Option.map_some, Option.getD_some]
    exact fits_lo8 _
end StrChars.Road
namespace StrChars.Road
open Jvm Sem ClassFile Op Lib Jvm.Stand Jvm.Free Jvm.Free.XT
/-- WHAT COMES BACK, in the writer's own shape -/
def QV (Z : State) (x : Addr) (N : Int32) (bs : List Int32) (h : Heap) (n0 : Nat) (v : Option Value) (h' : Heap) (L : List Loc) : Prop := v = none ∧ RoadKit.Fr n0 L ∧ RoadKit.Keep h h' [x] ∧ RoadKit.Exa Z h' x ST ∧ RoadKit.Fld Z h' x ST "coder" "B" (.int 0) ∧
  ∃ (t : Addr) (kb : ClassId), n0 ≤ t ∧ h.size ≤ t ∧ ¬ t = x ∧ RoadKit.Fld Z h' x ST "value" "[B" (.ref t) ∧ RoadKit.Arv Z h' t kb .byte N (bs.map Value.int) (.int 0)
/-- **new String(chars) AT A CALL, FOR THE WRITER**: a char[] of n known ints, each 0 to 255 -/
theorem backV {p : Program} {l : Launch} {e : Env} {R : Room} {s : State} {args : Array Value} {below : List Frame} {len W : Nat} {Z : State} {a0 : Array Value} {h : Heap} (hZ : Z.Warmed39 s.vm) (hw : ∀ d ∈ words, d.before a0 Z = true) {kI : Nat} (wi : (Jvm.Cond.instantiable ST kI).before a0 Z = true)
    {x b : Addr} {kC : ClassId} {cs bs : List Int32} {d v0 c0 : Value} {z N : Int32} {n n0 : Nat} (hx0 : n0 ≤ x) (hh0 : n0 ≤ h.size) (E : RoadKit.Exa Z h x ST) (V : RoadKit.Fld Z h x ST "value" "[B" v0) (C : RoadKit.Fld Z h x ST "coder" "B" c0) (K : RoadKit.Arv Z h b kC .char N (cs.map Value.int) d) (S : RoadKit.Sta Z h ST "COMPACT_STRINGS" "Z" (.int z)) (hz : ¬ z = 0)
    (hn : cs.length = n) (hN : N = Int32.ofNat n) (l0 : 0 < n) (l2 : n ≤ 4000) (hp : ∀ c ∈ cs, ¬ c < 0 ∧ ¬ (255 : Int32) < c) (hb : bs = cs.map (fun c => c.toInt8.toInt32)) (hfr : 4 ≤ R.frames) (hlo : W + 65 ≤ R.locals) :
    Back l R p e below s args (⟨"java/lang/String", "<init>", "([C)V"⟩ : MethodName) len W (fun P a => a = #[.ref x, .ref b] ∧ P.U.heap = h ∧ P.cells + 1 ≤ R.cells ∧ P.slots + n ≤ R.slots)
      (fun P _ v B => ∃ L, QV Z x N bs h n0 v B.U.heap L ∧ B.locs = P.locs ++ L ∧ B.cells = P.cells + 1 ∧ B.slots = P.slots + n) := by
  subst hn hN hb
  refine Back.mono (backArv hZ hw wi E V C K S hz (n32 (by omega)) l0 (by omega) (fun c hc => (hp c hc).2) hfr hlo) (fun P a hp => hp) (fun P a v B hp hq => ?_)
  obtain ⟨L, ⟨q1, q2, q3, q4, q5, q6, q7, ⟨kb, v1, v2⟩, q9⟩, hl, hc, hs⟩ := hq
  exact ⟨L, ⟨q1, fun y hy => by rw [q2 y hy]; exact hx0, q3, q5, q7, h.size, kb, hh0, Nat.le_refl _, Nat.ne_of_gt E.lt, q6, by rw [List.map_map]; exact v2⟩, hl, hc, hs⟩
end StrChars.Road
namespace StrChars
open Jvm Sem ClassFile Op Lib Jvm.Stand Jvm.Free.XT Jvm.Free.ALB Jvm.Free.JM Jvm.Free
open Jvm.Lib.Cold (StaticIs)
def hi8 (x : Int32) : Int32 := lo8 (x >>> ((8 : Int32) &&& 31))
/-- what StringUTF16.getChar makes of two bytes -/
def pairCh (u v : Int32) : Int32 := (((u &&& 255) <<< ((0 : Int32) &&& 31)) ||| ((v &&& 255) <<< ((8 : Int32) &&& 31))).toUInt32.toUInt16.toUInt32.toInt32
theorem lo8_and (x : Int32) : (lo8 x &&& 255).toBitVec.toNat = x.toBitVec.toNat % 256 := by
  have h : (lo8 x).toBitVec = (x.toBitVec.signExtend 8).signExtend 32 := by rw [lo8, Int8.toBitVec_toInt32, Int32.toBitVec_toInt8]
  rw [Int32.toBitVec_and, BitVec.toNat_and, h]
  have e : ((x.toBitVec.signExtend 8).signExtend 32).toNat % 256 = x.toBitVec.toNat % 256 := by
    rw [BitVec.toNat_signExtend]
    have hlt := x.toBitVec.isLt
    simp only [BitVec.toNat_setWidth, BitVec.toNat_signExtend]
    split <;> split <;> omega
  rw [← e]
  exact Nat.and_two_pow_sub_one_eq_mod _ 8
theorem pair_says {c : Int32} (h0 : ¬ c < 0) (h1 : ¬ 65535 < c) : pairCh (lo8 c) (hi8 c) = c := by
  rw [Int32.lt_iff_toInt_lt] at h0 h1
  have e0 : (0 : Int32).toInt = 0 := rfl
  have e1 : (65535 : Int32).toInt = 65535 := rfl
  have hc : c.toInt = c.toBitVec.toNat := by
    have := c.toBitVec.isLt
    have e : c.toInt = c.toBitVec.toInt := rfl
    rw [e] at h0 h1
    rw [e]
    rw [BitVec.toInt_eq_toNat_cond] at h0 h1 ⊢
    split at h0 <;> split <;> omega
  have hn : c.toBitVec.toNat < 65536 := by omega
  have a1 := lo8_and c
  have a2 : (hi8 c &&& 255).toBitVec.toNat = c.toBitVec.toNat / 256 := by
    rw [hi8, lo8_and]
    have e : ((8 : Int32) &&& 31) = 8 := by decide
    rw [e, Int32.toBitVec_shiftRight]
    have e2 : ((8 : Int32).toBitVec.smod 32) = 8#32 := by decide
    rw [e2, BitVec.sshiftRight_eq', BitVec.toNat_sshiftRight_of_msb_false (by rw [BitVec.msb_eq_false_iff_two_mul_lt]; omega)]
    show c.toBitVec.toNat >>> 8 % 256 = _
    rw [Nat.shiftRight_eq_div_pow]
    omega
  unfold pairCh
  apply Int32.toBitVec_inj.mp
  apply BitVec.eq_of_toNat_eq
  have f0 : ((0 : Int32) &&& 31) = 0 := by decide
  have f8 : ((8 : Int32) &&& 31) = 8 := by decide
  rw [f0, f8]
  have g : (((lo8 c &&& 255) <<< (0 : Int32)) ||| ((hi8 c &&& 255) <<< (8 : Int32))).toBitVec.toNat = c.toBitVec.toNat := by
    rw [Int32.toBitVec_or, Int32.toBitVec_shiftLeft, Int32.toBitVec_shiftLeft]
    have s0 : ((0 : Int32).toBitVec.smod 32) = 0#32 := by decide
    have s8 : ((8 : Int32).toBitVec.smod 32) = 8#32 := by decide
    rw [s0, s8, BitVec.toNat_or]
    simp only [BitVec.shiftLeft_eq', BitVec.toNat_shiftLeft, a1, a2]
    show (c.toBitVec.toNat % 256) <<< 0 % 2 ^ 32 ||| (c.toBitVec.toNat / 256) <<< 8 % 2 ^ 32 = _
    rw [Nat.shiftLeft_zero, Nat.mod_eq_of_lt (show c.toBitVec.toNat % 256 < 2 ^ 32 by omega), Nat.mod_eq_of_lt (show (c.toBitVec.toNat / 256) <<< 8 < 2 ^ 32 by rw [Nat.shiftLeft_eq]; omega), Nat.or_comm, ← Nat.shiftLeft_add_eq_or_of_lt (by omega), Nat.shiftLeft_eq]
    omega
  show BitVec.toNat (((((lo8 c &&& 255) <<< (0 : Int32)) ||| ((hi8 c &&& 255) <<< (8 : Int32))).toBitVec.setWidth 16).setWidth 32) = _
  rw [BitVec.toNat_setWidth, BitVec.toNat_setWidth, g]
  omega
end StrChars
namespace StrChars
open Jvm Sem ClassFile Op Lib Jvm.Stand Jvm.Free.XT Jvm.Free.ALB Jvm.Free.JM Jvm.Free
open Jvm.Lib.Cold (StaticIs)
/-- the array's cell V codes the n chars f 0 .. f (n - 1) by the coder cd, as the JDK does: coder 1 just where some char is above 255 -/
def Cod (cd : Int32) (n : Nat) (f : Nat → Int32) (V : Cell) : Prop := (cd = 0 ∧ V.slots.size = n ∧ ∀ j, j < n → V.slots[j]? = some (.int (lo8 (f j))) ∧ ¬ 255 < f j) ∨ (cd = 1 ∧ V.slots.size = 2 * n ∧ (∀ j, j < n → V.slots[2 * j]? = some (.int (lo8 (f j))) ∧ V.slots[2 * j + 1]? = some (.int (hi8 (f j)))) ∧ ∃ j, j < n ∧ 255 < f j)
/-- **x is a String of the n chars f 0 .. f (n - 1)**, Latin-1 or UTF-16; its array at t has the cell V -/
def Txt (x t : Addr) (V : Cell) (cd : Int32) (n : Nat) (f : Nat → Int32) (U : State) : Prop := Exact "java/lang/String" x U ∧ Has x "java/lang/String" "value" "[B" (.ref t) U ∧ Has x "java/lang/String" "coder" "B" (.int cd) U ∧ XT.Arr .byte t V U ∧ Cod cd n f V ∧ ∀ j, j < n → ¬ f j < 0 ∧ ¬ 65535 < f j
theorem Txt.mv {x t : Addr} {V : Cell} {cd : Int32} {n : Nat} {f : Nat → Int32} {U U' : State} (h : Txt x t V cd n f U) (hal : U.vm.Alike U'.vm) (hh : U'.heap = U.heap) : Txt x t V cd n f U' := ⟨h.1.mv hal hh, h.2.1.mv hal hh, h.2.2.1.mv hal hh, h.2.2.2.1.mv hal hh, h.2.2.2.2⟩
end StrChars
namespace StrChars.Road
open Jvm Sem ClassFile Op Lib Jvm.Stand Jvm.Free Jvm.Free.XT
open Jvm.Lib.Cold (StaticIs)
theorem consq {a : Array Value} {s : State} {c : Jvm.Cond} {L : List Jvm.Cond} (h0 : c.before a s = true) (h : ∀ w ∈ L, w.before a s = true) : ∀ w ∈ c :: L, w.before a s = true := fun w hw => (List.mem_cons.mp hw).elim (fun e => e ▸ h0) (h w)
/-- the bytes of the chars cs, low before high -/
def wideBytes : List Int32 → List Value
  | [] => []
  | c :: cs => .int (lo8 c) :: .int (hi8 c) :: wideBytes cs
theorem wide_lo (d : Value) : ∀ (cs : List Int32) (j : Nat), j < cs.length → (wideBytes cs).getD (2 * j) d = .int (lo8 (cs.getD j 0))
  | [], j, h => absurd h (Nat.not_lt_zero j)
  | c :: cs, 0, _ => rfl
  | c :: cs, j + 1, h => by
    have q := wide_lo d cs j (by simpa using h)
    rw [show 2 * (j + 1) = 2 * j + 1 + 1 from by omega]
    simpa [wideBytes] using q
theorem wide_hi (d : Value) : ∀ (cs : List Int32) (j : Nat), j < cs.length → (wideBytes cs).getD (2 * j + 1) d = .int (hi8 (cs.getD j 0))
  | [], j, h => absurd h (Nat.not_lt_zero j)
  | c :: cs, 0, _ => rfl
  | c :: cs, j + 1, h => by
    have q := wide_hi d cs j (by simpa using h)
    rw [show 2 * (j + 1) + 1 = 2 * j + 1 + 1 + 1 from by omega]
    simpa [wideBytes] using q
theorem low_at (d : Value) (cs : List Int32) (j : Nat) (h : j < cs.length) : (cs.map fun c => Value.int (lo8 c)).getD j d = .int (lo8 (cs.getD j 0)) := by
  simp [List.getD_eq_getElem?_getD, h]
/-- an array of N2 bytes vs codes the chars cs by the coder cd -/
def CodA (cs : List Int32) (cd N2 : Int32) (vs : List Value) : Prop := (cd = 0 ∧ N2 = Int32.ofNat cs.length ∧ vs = (cs.map fun c => Value.int (lo8 c)) ∧ ∀ c ∈ cs, ¬ 255 < c) ∨ (cd = 1 ∧ N2 = Int32.ofNat (2 * cs.length) ∧ vs = wideBytes cs ∧ ∃ c ∈ cs, 255 < c)
theorem CodA.cod {cs : List Int32} {cd N2 : Int32} {vs : List Value} {V : Cell} (h : CodA cs cd N2 vs) (hn : 2 * cs.length < 2 ^ 31) (hs : V.slots.size = N2.toNatClampNeg) (hv : RoadKit.Has V vs (.int 0)) : Cod cd cs.length (fun j => cs.getD j 0) V := by
  rcases h with ⟨rfl, rfl, rfl, h⟩ | ⟨rfl, rfl, rfl, c, hc, hw⟩
  · rw [n32 (by omega)] at hs
    exact Or.inl ⟨rfl, hs, fun j hj => ⟨by rw [hv j (by omega), low_at _ _ _ hj], by
      have e : cs.getD j 0 = cs[j] := by simp [List.getD_eq_getElem?_getD, hj]
      show ¬ 255 < cs.getD j 0
      rw [e]; exact h _ (List.getElem_mem _)⟩⟩
  · rw [n32 (by omega)] at hs
    obtain ⟨j, hj, rfl⟩ := List.getElem_of_mem hc
    exact Or.inr ⟨rfl, hs, fun j hj => ⟨by rw [hv _ (by omega), wide_lo _ _ _ hj], by rw [hv _ (by omega), wide_hi _ _ _ hj]⟩, j, hj, by
      have e : cs.getD j 0 = cs[j] := by simp [List.getD_eq_getElem?_getD, hj]
      show 255 < cs.getD j 0
      rw [e]; exact hw⟩
/-- an object of exactly java/lang/String, its two fields found: as the laws ask it -/
theorem strObj {Z U : State} {a0 : Array Value} {kI : Nat} (wi : (Jvm.Cond.instantiable ST kI).before a0 Z = true) (al : Z.vm.Alike U.vm) {x : Addr} {v0 c0 : Value} (E : RoadKit.Exa Z U.heap x ST) (V : RoadKit.Fld Z U.heap x ST "value" "[B" v0) (C : RoadKit.Fld Z U.heap x ST "coder" "B" c0) :
    ∃ (D : Cell) (fV fC : Field), Blank ST x D U ∧ Found ST "value" "[B" fV U ∧ Found ST "coder" "B" fC U ∧ D.slots[fV.slot]? = some v0 ∧ D.slots[fC.slot]? = some c0 ∧ RoadKit.slotOf Z ST "value" "[B" = fV.slot ∧ RoadKit.slotOf Z ST "coder" "B" = fC.slot := by
  obtain ⟨D, cfV, kV, iV, fV, hD, gV, stV, knV, obV, asV, slV⟩ := V
  obtain ⟨D', cfC, kC, iC, fC, hD', gC, stC, -, -, asC, slC⟩ := C
  cases hD.symm.trans hD'
  obtain ⟨D2, kD, e1, e2, e3, e4, e5⟩ := E
  cases hD.symm.trans e1
  obtain ⟨c2, k2, i1, i2, i3, -⟩ := Cond.instantiable_spec wi
  cases e2.symm.trans i1
  cases e3.symm.trans i2
  obtain ⟨kU, u1, u2⟩ := al.2.2 _ _ e3
  exact ⟨D, fV, fC, ⟨hD, ⟨knV, fun q hq => by rw [hq] at obV; cases obV⟩, by rw [al.findClass]; exact e2, kU, u1, by rw [u2]; exact i3, by rw [u2]; exact e5 i3⟩, ⟨SBG.found_only al ⟨cfV, kV, iV, gV⟩, stV⟩, ⟨SBG.found_only al ⟨cfC, kC, iC, gC⟩, stC⟩, slV, slC, by simp [RoadKit.slotOf, gV], by simp [RoadKit.slotOf, gC]⟩
theorem sta_is {Z U : State} (al : Z.vm.Alike U.vm) {C n d : String} {v : Value} (S : RoadKit.Sta Z U.heap C n d v) : StaticIs U C n d v := by
  obtain ⟨cfS, iS, kS, fS, st, cS, t1, t2, t3, t4, t5, t6, t7⟩ := S
  exact StaticIs.there (s := { Z with heap := U.heap }) ⟨cfS, iS, kS, fS, st, cS, t1, t2, t3, t4, t5, (fun q => by rw [q] at t6; cases t6), t7⟩ al rfl
end StrChars.Road
namespace StrChars
open Jvm Sem ClassFile Op Lib Jvm.Stand Jvm.Free.XT Jvm.Free.ALB Jvm.Free.JM Jvm.Free
open Jvm.Lib.Cold (StaticIs)
/-- what place i of a byte[]'s cell holds -/
def yv (A : Cell) (i : Nat) : Int32 := match A.slots[i]? with | some (.int x) => x | _ => 0
theorem yv_get {a : Addr} {A : Cell} {U : State} (h : XT.Arr .byte a A U) (ht : Typed .byte A) {i : Nat} (hi : i < A.slots.size) : A.slots[i]? = some (.int (yv A i)) := by
  have e := Array.getElem?_eq_getElem hi
  have f := ht i _ e
  unfold yv; rw [e]
  generalize A.slots[i] = v at f
  cases v <;> simp [fits] at f ⊢
/-- the two arrays are equal, place for place -/
def EqC (A B : Cell) : Prop := A.slots.size = B.slots.size ∧ ∀ i, i < A.slots.size → yv A i = yv B i
/-- a boolean that says whether p -/
def Says01 (q : Prop) (r : Option Value) (s u : State) : Prop := ∃ v : Int32, r = some (.int v) ∧ u.heap = s.heap ∧ ((v = 1 ∧ q) ∨ (v = 0 ∧ ¬ q))
theorem Says01.mv {q : Prop} : ∀ r (U U' V V' : State), U'.heap = U.heap → V.vm.Alike V'.vm → V'.heap = V.heap → Says01 q r U V → Says01 q r U' V' :=
  fun r U U' V V' h1 _ h2 ⟨v, a, b, c⟩ => ⟨v, a, by rw [h1, h2]; exact b, c⟩
namespace LEq
def yN : MethodName := ⟨"java/lang/StringLatin1", "equals", "([B[B)Z"⟩
abbrev yB : ByteArray := jdk_43_method_13_code
theorem d0 : decode yB 0 = .ok (.aload_n 0, 1) := by decide +kernel
theorem d1 : decode yB 1 = .ok (.arraylength, 1) := by decide +kernel
theorem d2 : decode yB 2 = .ok (.aload_n 1, 1) := by decide +kernel
theorem d3 : decode yB 3 = .ok (.arraylength, 1) := by decide +kernel
theorem d4 : decode yB 4 = .ok (.if_icmp (.ne) 30, 3) := by decide +kernel
theorem d7 : decode yB 7 = .ok (.iconst 0, 1) := by decide +kernel
theorem d8 : decode yB 8 = .ok (.istore_n 2, 1) := by decide +kernel
theorem d9 : decode yB 9 = .ok (.iload_n 2, 1) := by decide +kernel
theorem d10 : decode yB 10 = .ok (.aload_n 0, 1) := by decide +kernel
theorem d11 : decode yB 11 = .ok (.arraylength, 1) := by decide +kernel
theorem d12 : decode yB 12 = .ok (.if_icmp (.ge) 20, 3) := by decide +kernel
theorem d15 : decode yB 15 = .ok (.aload_n 0, 1) := by decide +kernel
theorem d16 : decode yB 16 = .ok (.iload_n 2, 1) := by decide +kernel
theorem d17 : decode yB 17 = .ok (.baload, 1) := by decide +kernel
theorem d18 : decode yB 18 = .ok (.aload_n 1, 1) := by decide +kernel
theorem d19 : decode yB 19 = .ok (.iload_n 2, 1) := by decide +kernel
theorem d20 : decode yB 20 = .ok (.baload, 1) := by decide +kernel
theorem d21 : decode yB 21 = .ok (.if_icmp (.eq) 5, 3) := by decide +kernel
theorem d24 : decode yB 24 = .ok (.iconst 0, 1) := by decide +kernel
theorem d25 : decode yB 25 = .ok (.ireturn, 1) := by decide +kernel
theorem d26 : decode yB 26 = .ok (.iinc 2 1, 3) := by decide +kernel
theorem d29 : decode yB 29 = .ok (.goto (-20), 3) := by decide +kernel
theorem d32 : decode yB 32 = .ok (.iconst 1, 1) := by decide +kernel
theorem d33 : decode yB 33 = .ok (.ireturn, 1) := by decide +kernel
theorem d34 : decode yB 34 = .ok (.iconst 0, 1) := by decide +kernel
theorem d35 : decode yB 35 = .ok (.ireturn, 1) := by decide +kernel
def site : List Cond := []
def tab : Cond := tabOf yN yB 3 (some .boolean) site
def P (a : Addr) (A : Cell) (b : Addr) (B : Cell) (args : Array Value) (s : State) : Prop := args = #[.ref a, .ref b] ∧ XT.Arr .byte a A s ∧ Typed .byte A ∧ XT.Arr .byte b B s ∧ Typed .byte B
/-- whether two byte[] are equal, place for place -/
theorem law (l : Launch) (a : Addr) (A : Cell) (b : Addr) (B : Cell) : Law l yN 2 2 0 0 yB 3 (some .boolean) site (P a A b B) (Says01 (EqC A B)) [] 0 0 := by
  refine Law.of_walk (plainFor_of_name (by decide +kernel)) (by decide +kernel) (by decide +kernel) (by decide) (fun _ _ h => by rw [h.1]; rfl) (fun _ U U' hal hh h => ⟨h.1, h.2.1.mv hal hh, h.2.2.1, h.2.2.2.1.mv hal hh, h.2.2.2.2⟩) (fun r U U' V V' h1 hal h2 h => Says01.mv r U U' V V' h1 hal h2 h) ?_
  intro p e s m args below meth c s₁ X0 hexec hbytes hml hret hlk hnm hown hh0 W hP
  obtain ⟨rfl, hA, tA, hB, tB⟩ := hP
  have a31 := hA.2.2.2
  have b31 := hB.2.2.2
  have hA0 := hA.mv X0.warmed.alike hh0
  have hB0 := hB.mv X0.warmed.alike hh0
  have c1 : Steps p.tables e below (s₁.setTop (entryFrame m #[.ref a, .ref b] 3)) (s₁.setTop (mkF m 0 #[.val (.ref a), .val (.ref b), .unset] [])) := entry rfl
  have c2 : Steps p.tables e below (s₁.setTop (entryFrame m #[.ref a, .ref b] 3)) (s₁.setTop (mkF m 4 #[.val (.ref a), .val (.ref b), .unset] [.int (Int32.ofNat B.slots.size), .int (Int32.ofNat A.slots.size)])) := c1.trans (by
    refine XS.aloadN X0.here hexec rfl (hb hbytes d0) rfl rfl ?_
    refine X0.alen hexec hA0 rfl rfl (hb hbytes d1) ?_
    refine XS.aloadN X0.here hexec rfl (hb hbytes d2) rfl rfl ?_
    refine X0.alen hexec hB0 rfl rfl (hb hbytes d3) ?_
    exact Steps.refl _)
  by_cases hs : A.slots.size = B.slots.size
  · have c3 : Steps p.tables e below (s₁.setTop (entryFrame m #[.ref a, .ref b] 3)) (s₁.setTop (mkF m 9 #[.val (.ref a), .val (.ref b), .val (.int 0)] [])) := c2.trans (by
      refine XS.icmpNo X0.here hexec rfl (hb hbytes d4) rfl (ii_ne_f (by rw [hs])) ?_
      refine iconstV X0.here hexec rfl 0 (hb hbytes d7) (by decide) ?_
      refine XS.istoreN X0.here hexec rfl (hb hbytes d8) rfl rfl ?_
      exact Steps.refl _)
    have loop : ∀ (r i : Nat), i + r = A.slots.size → (∀ j, j < i → yv A j = yv B j) → Steps p.tables e below (s₁.setTop (entryFrame m #[.ref a, .ref b] 3)) (s₁.setTop (mkF m 9 #[.val (.ref a), .val (.ref b), .val (.int (Int32.ofNat i))] [])) → ∃ (pc : Nat) (Ls : Array Slot) (v : Int32), (pc = 25 ∨ pc = 33) ∧ ((v = 1 ∧ EqC A B) ∨ (v = 0 ∧ ¬ EqC A B)) ∧ Steps p.tables e below (s₁.setTop (entryFrame m #[.ref a, .ref b] 3)) (s₁.setTop (mkF m pc Ls [.int v])) := by
      intro r
      induction r with
      | zero =>
        intro i hi he cl
        exact ⟨33, _, 1, Or.inr rfl, Or.inl ⟨rfl, hs, fun j hj => he j (by omega)⟩, cl.trans (by
          refine XS.iloadN X0.here hexec rfl (hb hbytes d9) rfl ?_
          refine XS.aloadN X0.here hexec rfl (hb hbytes d10) rfl rfl ?_
          refine X0.alen hexec hA0 rfl rfl (hb hbytes d11) ?_
          refine XS.icmpYes X0.here hexec rfl (pc0 := 12) rfl (hb hbytes d12) rfl (ii_ge_t (nlt32 (by omega) (by omega))) (by decide) rfl ?_
          refine iconstV X0.here hexec rfl 1 (hb hbytes d32) (by decide) ?_
          exact Steps.refl _)⟩
      | succ r ih =>
        intro i hi he cl
        have c4 : Steps p.tables e below (s₁.setTop (entryFrame m #[.ref a, .ref b] 3)) (s₁.setTop (mkF m 21 #[.val (.ref a), .val (.ref b), .val (.int (Int32.ofNat i))] [.int (yv B i), .int (yv A i)])) := cl.trans (by
          refine XS.iloadN X0.here hexec rfl (hb hbytes d9) rfl ?_
          refine XS.aloadN X0.here hexec rfl (hb hbytes d10) rfl rfl ?_
          refine X0.alen hexec hA0 rfl rfl (hb hbytes d11) ?_
          refine XS.icmpNo X0.here hexec rfl (hb hbytes d12) rfl (ii_ge_f (lt32 (by omega) (by omega))) ?_
          refine XS.aloadN X0.here hexec rfl (hb hbytes d15) rfl rfl ?_
          refine XS.iloadN X0.here hexec rfl (hb hbytes d16) rfl ?_
          refine X0.aget hexec hA0 rfl (yv_get hA tA (i := i) (by omega)) rfl rfl (hb hbytes d17) ?_
          refine XS.aloadN X0.here hexec rfl (hb hbytes d18) rfl rfl ?_
          refine XS.iloadN X0.here hexec rfl (hb hbytes d19) rfl ?_
          refine X0.aget hexec hB0 rfl (yv_get hB tB (i := i) (by omega)) rfl rfl (hb hbytes d20) ?_
          exact Steps.refl _)
        by_cases hv : yv A i = yv B i
        · have c5 : Steps p.tables e below (s₁.setTop (entryFrame m #[.ref a, .ref b] 3)) (s₁.setTop (mkF m 9 #[.val (.ref a), .val (.ref b), .val (.int (Int32.ofNat i + 1))] [])) := c4.trans (by
            refine XS.icmpYes X0.here hexec rfl (pc0 := 21) rfl (hb hbytes d21) rfl (ii_eq_t hv) (by decide) rfl ?_
            refine iincV X0.here hexec rfl 1 (hb hbytes d26) (by decide) rfl rfl ?_
            refine XS.goto X0.here hexec rfl (pc0 := 29) rfl (hb hbytes d29) (by decide) rfl ?_
            exact Steps.refl _)
          rw [succ32] at c5
          exact ih (i + 1) (by omega) (fun j hj => by
            by_cases e : j = i
            · rw [e]; exact hv
            · exact he j (by omega)) c5
        · exact ⟨25, _, 0, Or.inl rfl, Or.inr ⟨rfl, fun q => hv (q.2 i (by omega))⟩, c4.trans (by
            refine XS.icmpNo X0.here hexec rfl (hb hbytes d21) rfl (ii_eq_f hv) ?_
            refine iconstV X0.here hexec rfl 0 (hb hbytes d24) (by decide) ?_
            exact Steps.refl _)⟩
    obtain ⟨pc, Ls, v, hpc, hv, cz⟩ := loop A.slots.size 0 (by omega) (fun j hj => absurd hj (Nat.not_lt_zero j)) c3
    have nv : narrow .boolean (.int v) = .int v := by rcases hv with ⟨rfl, -⟩ | ⟨rfl, -⟩ <;> rfl
    rcases hpc with rfl | rfl
    · exact ⟨s₁, some (.int v), _, _, _, X0, rfl, rfl, rfl, (fun h => by cases h), ⟨v, rfl, hh0, hv⟩, fun fs hl => cz.trans (X0.ireturnOut hexec hret nv (Or.inr (Or.inl rfl)) (hb hbytes d25) hl)⟩
    · exact ⟨s₁, some (.int v), _, _, _, X0, rfl, rfl, rfl, (fun h => by cases h), ⟨v, rfl, hh0, hv⟩, fun fs hl => cz.trans (X0.ireturnOut hexec hret nv (Or.inr (Or.inl rfl)) (hb hbytes d33) hl)⟩
  · have c3 : Steps p.tables e below (s₁.setTop (entryFrame m #[.ref a, .ref b] 3)) (s₁.setTop (mkF m 35 #[.val (.ref a), .val (.ref b), .unset] [.int 0])) := c2.trans (by
      refine XS.icmpYes X0.here hexec rfl (pc0 := 4) rfl (hb hbytes d4) rfl (ii_ne_t (ne32 a31 b31 hs)) (by decide) rfl ?_
      refine iconstV X0.here hexec rfl 0 (hb hbytes d34) (by decide) ?_
      exact Steps.refl _)
    exact ⟨s₁, some (.int 0), _, _, _, X0, rfl, rfl, rfl, (fun h => by cases h), ⟨0, rfl, hh0, Or.inr ⟨rfl, fun q => hs q.1⟩⟩, fun fs hl => c3.trans (X0.ireturnOut hexec hret rfl (Or.inr (Or.inl rfl)) (hb hbytes d35) hl)⟩
end LEq
theorem Cod.ty {cd : Int32} {n : Nat} {f : Nat → Int32} {V : Cell} (h : Cod cd n f V) : Typed .byte V := fun i v hv => by
  have hi : i < V.slots.size := (Array.getElem?_eq_some_iff.mp hv).1
  rcases h with ⟨-, k1, k2⟩ | ⟨-, k1, k2, -⟩
  · rw [(k2 i (by omega)).1] at hv; cases hv; exact fits_lo8 _
  · rcases Nat.mod_two_eq_zero_or_one i with e | e
    · obtain ⟨j, rfl⟩ : ∃ j, i = 2 * j := ⟨i / 2, by omega⟩
      rw [(k2 j (by omega)).1] at hv; cases hv; exact fits_lo8 _
    · obtain ⟨j, rfl⟩ : ∃ j, i = 2 * j + 1 := ⟨i / 2, by omega⟩
      rw [(k2 j (by omega)).2] at hv; cases hv; exact fits_lo8 _
/-- the same text -/
def SameT (n : Nat) (f : Nat → Int32) (k : Nat) (g : Nat → Int32) : Prop := n = k ∧ ∀ j, j < n → f j = g j
theorem lo8_inj {x y : Int32} (h0 : ¬ x < 0) (h1 : ¬ 255 < x) (k0 : ¬ y < 0) (k1 : ¬ 255 < y) (h : lo8 x = lo8 y) : x = y := by
  rw [← lo8_mask h0 h1, ← lo8_mask k0 k1, h]
/-- arrays coded by one coder are equal just where the texts are -/
theorem Cod.eqv {cd : Int32} {n k : Nat} {f g : Nat → Int32} {V V' : Cell} (h : Cod cd n f V) (h' : Cod cd k g V') (hf : ∀ j, j < n → ¬ f j < 0 ∧ ¬ 65535 < f j) (hg : ∀ j, j < k → ¬ g j < 0 ∧ ¬ 65535 < g j) : EqC V V' ↔ SameT n f k g := by
  have yvv : ∀ {W : Cell} {i : Nat} {x : Int32}, W.slots[i]? = some (.int x) → yv W i = x := fun q => by unfold yv; rw [q]
  rcases h with ⟨rfl, k1, k2⟩ | ⟨rfl, k1, k2, -⟩
  · rcases h' with ⟨-, m1, m2⟩ | ⟨e, -⟩
    · constructor
      · rintro ⟨e1, e2⟩
        refine ⟨by omega, fun j hj => ?_⟩
        have q := e2 j (by omega)
        rw [yvv (k2 j hj).1, yvv (m2 j (by omega)).1] at q
        exact lo8_inj (hf j hj).1 (k2 j hj).2 (hg j (by omega)).1 (m2 j (by omega)).2 q
      · rintro ⟨rfl, e2⟩
        refine ⟨by omega, fun j hj => ?_⟩
        rw [yvv (k2 j (by omega)).1, yvv (m2 j (by omega)).1, e2 j (by omega)]
    · exact absurd e (by decide)
  · rcases h' with ⟨e, -⟩ | ⟨-, m1, m2, -⟩
    · exact absurd e (by decide)
    · constructor
      · rintro ⟨e1, e2⟩
        refine ⟨by omega, fun j hj => ?_⟩
        have q1 := e2 (2 * j) (by omega)
        have q2 := e2 (2 * j + 1) (by omega)
        rw [yvv (k2 j hj).1, yvv (m2 j (by omega)).1] at q1
        rw [yvv (k2 j hj).2, yvv (m2 j (by omega)).2] at q2
        rw [← pair_says (hf j hj).1 (hf j hj).2, ← pair_says (hg j (by omega)).1 (hg j (by omega)).2, q1, q2]
      · rintro ⟨rfl, e2⟩
        refine ⟨by omega, fun i hi => ?_⟩
        rcases Nat.mod_two_eq_zero_or_one i with e | e
        · obtain ⟨j, rfl⟩ : ∃ j, i = 2 * j := ⟨i / 2, by omega⟩
          rw [yvv (k2 j (by omega)).1, yvv (m2 j (by omega)).1, e2 j (by omega)]
        · obtain ⟨j, rfl⟩ : ∃ j, i = 2 * j + 1 := ⟨i / 2, by omega⟩
          rw [yvv (k2 j (by omega)).2, yvv (m2 j (by omega)).2, e2 j (by omega)]
/-- two codings differ: so do the texts -/
theorem Cod.dif {cd cd' : Int32} {n k : Nat} {f g : Nat → Int32} {V V' : Cell} (h : Cod cd n f V) (h' : Cod cd' k g V') (hne : ¬ cd = cd') : ¬ SameT n f k g := by
  rintro ⟨rfl, e⟩
  rcases h with ⟨rfl, -, k2⟩ | ⟨rfl, -, -, j, hj, hw⟩
  · rcases h' with ⟨rfl, -⟩ | ⟨-, -, -, j, hj, hw⟩
    · exact hne rfl
    · exact (k2 j hj).2 (by rw [e j hj]; exact hw)
  · rcases h' with ⟨-, -, m2⟩ | ⟨rfl, -⟩
    · exact (m2 j hj).2 (by rw [← e j hj]; exact hw)
    · exact hne rfl
/-- an object of exactly C is an instance of C -/
theorem cinst {p : Program} {l : Launch} {e : Env} {R : Room} {s : State} {m : MethodId} {args : Array Value} {below : List Frame} {meth : Method} {c : Code} {T : State} {locs : List Loc} {cells slots : Nat} (X : Stand p l e R s m args below meth c T locs cells slots) (hexec : p.tables.exec = Jvm.exec) {own C : String} {index : Nat} (hown : s.vm.findClass own = some m.cls) (hlink : (Cond.classLink own index C).before args s = true) {a : Addr} (hE : Exact C a T)
    {g : JFrame} (hg : g.method = m) {rest : List Value} (hstack : g.stack = .ref a :: rest) (hdg : decode c.code g.pc = .ok (.instanceof index, 3)) :
    ∃ T', Stand p l e R s m args below meth c T' locs cells slots ∧ T'.heap = T.heap ∧ ∀ target, Steps p.tables e below (T'.setTop { g with pc := g.pc + 3, stack := .int 1 :: rest }) target → Steps p.tables e below (T.setTop g) target := by
  obtain ⟨cB, h1, D, h2, h3, h4⟩ := hE
  have h1' : s.vm.findClass C = some cB := by rw [← X.warmed.alike.findClass]; exact h1
  obtain ⟨vm', X', st⟩ := X.instanceofYes hexec hown hlink h2 h4 h1' (by rw [h3]; exact Jvm.Free.SB.assignable_self _ _) hg hstack hdg
  exact ⟨_, X', rfl, st⟩
theorem cself {p : Program} {l : Launch} {e : Env} {R : Room} {s : State} {m : MethodId} {args : Array Value} {below : List Frame} {meth : Method} {c : Code} {T : State} {locs : List Loc} {cells slots : Nat} (X : Stand p l e R s m args below meth c T locs cells slots) (hexec : p.tables.exec = Jvm.exec) {own C : String} {index : Nat} (hown : s.vm.findClass own = some m.cls) (hlink : (Cond.classLink own index C).before args s = true) {a : Addr} (hE : Exact C a T)
    {g : JFrame} (hg : g.method = m) {rest : List Value} (hstack : g.stack = .ref a :: rest) (hdg : decode c.code g.pc = .ok (.checkcast index, 3)) :
    ∃ T', Stand p l e R s m args below meth c T' locs cells slots ∧ T'.heap = T.heap ∧ ∀ target, Steps p.tables e below (T'.setTop { g with pc := g.pc + 3, stack := .ref a :: rest }) target → Steps p.tables e below (T.setTop g) target := by
  obtain ⟨cB, h1, D, h2, h3, h4⟩ := hE
  have h1' : s.vm.findClass C = some cB := by rw [← X.warmed.alike.findClass]; exact h1
  obtain ⟨vm', X', st⟩ := X.checkcastYes hexec hown hlink h2 h4 h1' (by rw [h3]; exact Jvm.Free.SB.assignable_self _ _) hg hstack hdg
  exact ⟨_, X', rfl, fun t h => st t (by rw [← hstack] at h; exact h)⟩
namespace SEq
def yN : MethodName := ⟨"java/lang/String", "equals", "(Ljava/lang/Object;)Z"⟩
abbrev yB : ByteArray := jdk_42_method_66_code
theorem d0 : decode yB 0 = .ok (.aload_n 0, 1) := by decide +kernel
theorem d1 : decode yB 1 = .ok (.aload_n 1, 1) := by decide +kernel
theorem d2 : decode yB 2 = .ok (.if_acmp (.ne) 5, 3) := by decide +kernel
theorem d5 : decode yB 5 = .ok (.iconst 1, 1) := by decide +kernel
theorem d6 : decode yB 6 = .ok (.ireturn, 1) := by decide +kernel
theorem d7 : decode yB 7 = .ok (.aload_n 1, 1) := by decide +kernel
theorem d8 : decode yB 8 = .ok (.instanceof 10, 3) := by decide +kernel
theorem d11 : decode yB 11 = .ok (.ifCond (.eq) 43, 3) := by decide +kernel
theorem d14 : decode yB 14 = .ok (.aload_n 1, 1) := by decide +kernel
theorem d15 : decode yB 15 = .ok (.checkcast 10, 3) := by decide +kernel
theorem d18 : decode yB 18 = .ok (.astore_n 2, 1) := by decide +kernel
theorem d19 : decode yB 19 = .ok (.getstatic 38, 3) := by decide +kernel
theorem d22 : decode yB 22 = .ok (.ifCond (.eq) 14, 3) := by decide +kernel
theorem d25 : decode yB 25 = .ok (.aload_n 0, 1) := by decide +kernel
theorem d26 : decode yB 26 = .ok (.getfield 15, 3) := by decide +kernel
theorem d29 : decode yB 29 = .ok (.aload_n 2, 1) := by decide +kernel
theorem d30 : decode yB 30 = .ok (.getfield 15, 3) := by decide +kernel
theorem d33 : decode yB 33 = .ok (.if_icmp (.ne) 21, 3) := by decide +kernel
theorem d36 : decode yB 36 = .ok (.aload_n 0, 1) := by decide +kernel
theorem d37 : decode yB 37 = .ok (.getfield 9, 3) := by decide +kernel
theorem d40 : decode yB 40 = .ok (.aload_n 2, 1) := by decide +kernel
theorem d41 : decode yB 41 = .ok (.getfield 9, 3) := by decide +kernel
theorem d44 : decode yB 44 = .ok (.invokestatic 541, 3) := by decide +kernel
theorem d47 : decode yB 47 = .ok (.ifCond (.eq) 7, 3) := by decide +kernel
theorem d50 : decode yB 50 = .ok (.iconst 1, 1) := by decide +kernel
theorem d51 : decode yB 51 = .ok (.goto 4, 3) := by decide +kernel
theorem d54 : decode yB 54 = .ok (.iconst 0, 1) := by decide +kernel
theorem d55 : decode yB 55 = .ok (.ireturn, 1) := by decide +kernel
def site : List Cond := [.classLink "java/lang/String" 10 "java/lang/String", .fieldLink "java/lang/String" 38 "java/lang/String" "COMPACT_STRINGS" "Z", .fieldLink "java/lang/String" 15 "java/lang/String" "coder" "B", .fieldLink "java/lang/String" 9 "java/lang/String" "value" "[B", LEq.tab] ++ staticW "java/lang/String" 541 LEq.yN
def tab : Cond := tabOf yN yB 3 (some .boolean) site
def P (x t : Addr) (V : Cell) (cd : Int32) (n : Nat) (f : Nat → Int32) (y t' : Addr) (V' : Cell) (cd' : Int32) (k : Nat) (g : Nat → Int32) (z : Int32) (args : Array Value) (s : State) : Prop := args = #[.ref x, .ref y] ∧ Txt x t V cd n f s ∧ Txt y t' V' cd' k g s ∧ StaticIs s "java/lang/String" "COMPACT_STRINGS" "Z" (.int z) ∧ ¬ z = 0
/-- equals(Object) of two Strings: whether the texts are the same -/
theorem law (l : Launch) (x t : Addr) (V : Cell) (cd : Int32) (n : Nat) (f : Nat → Int32) (y t' : Addr) (V' : Cell) (cd' : Int32) (k : Nat) (g : Nat → Int32) (z : Int32) : Law l yN 2 1 1 14 yB 3 (some .boolean) site (P x t V cd n f y t' V' cd' k g z) (Says01 (SameT n f k g)) [] 0 0 := by
  refine Law.of_walk (plainFor_of_name (by decide +kernel)) (by decide +kernel) (by decide +kernel) (by decide) (fun _ _ h => by rw [h.1]; rfl) (fun _ U U' hal hh h => ⟨h.1, h.2.1.mv hal hh, h.2.2.1.mv hal hh, h.2.2.2.1.there hal hh, h.2.2.2.2⟩) (fun r U U' V V' h1 hal h2 h => Says01.mv r U U' V V' h1 hal h2 h) ?_
  intro p e s m args below meth c s₁ X0 hexec hbytes hml hret hlk hnm hown hh0 W hP
  obtain ⟨rfl, hx, hy, s1, hz⟩ := hP
  have c1 : Steps p.tables e below (s₁.setTop (entryFrame m #[.ref x, .ref y] 3)) (s₁.setTop (mkF m 2 #[.val (.ref x), .val (.ref y), .unset] [.ref y, .ref x])) := Steps.trans (entry rfl) (by
    show Steps p.tables e below (s₁.setTop (mkF m 0 #[.val (.ref x), .val (.ref y), .unset] [])) _
    refine XS.aloadN X0.here hexec rfl (hb hbytes d0) rfl rfl ?_
    refine XS.aloadN X0.here hexec rfl (hb hbytes d1) rfl rfl ?_
    exact Steps.refl _)
  by_cases hxy : x = y
  · have c2 : Steps p.tables e below (s₁.setTop (entryFrame m #[.ref x, .ref y] 3)) (s₁.setTop (mkF m 6 #[.val (.ref x), .val (.ref y), .unset] [.int 1])) := c1.trans (by
      refine acmpNo X0.here hexec rfl (hb hbytes d2) rfl rfl rfl (by simp [acmp, hxy]) ?_
      refine iconstV X0.here hexec rfl 1 (hb hbytes d5) (by decide) ?_
      exact Steps.refl _)
    subst hxy
    have ec : cd = cd' := by
      obtain ⟨D, fd, a1, a2, a3⟩ := hx.2.2.1
      obtain ⟨D', fd', b1, b2, b3⟩ := hy.2.2.1
      cases a1.symm.trans b1
      obtain ⟨q1, q2, q3, q4⟩ := a2.1
      obtain ⟨r1, r2, r3, r4⟩ := b2.1
      cases q4.symm.trans r4
      cases a3.symm.trans b3; rfl
    have et : t = t' := by
      obtain ⟨D, fd, a1, a2, a3⟩ := hx.2.1
      obtain ⟨D', fd', b1, b2, b3⟩ := hy.2.1
      cases a1.symm.trans b1
      obtain ⟨q1, q2, q3, q4⟩ := a2.1
      obtain ⟨r1, r2, r3, r4⟩ := b2.1
      cases q4.symm.trans r4
      cases a3.symm.trans b3; rfl
    subst ec et
    have ev : V = V' := by cases hx.2.2.2.1.1.symm.trans hy.2.2.2.1.1; rfl
    subst ev
    have hs : SameT n f k g := (Cod.eqv hx.2.2.2.2.1 hy.2.2.2.2.1 hx.2.2.2.2.2 hy.2.2.2.2.2).mp ⟨rfl, fun _ _ => rfl⟩
    exact ⟨s₁, some (.int 1), _, _, _, X0, rfl, rfl, rfl, (fun h => by cases h), ⟨1, rfl, hh0, Or.inl ⟨rfl, hs⟩⟩, fun fs hl => c2.trans (X0.ireturnOut hexec hret rfl (Or.inr (Or.inl rfl)) (hb hbytes d6) hl)⟩
  · have c2 : Steps p.tables e below (s₁.setTop (entryFrame m #[.ref x, .ref y] 3)) (s₁.setTop (mkF m 8 #[.val (.ref x), .val (.ref y), .unset] [.ref y])) := c1.trans (by
      refine acmpYes X0.here hexec rfl (pc0 := 2) rfl (hb hbytes d2) rfl rfl rfl (by simp [acmp, hxy]) (by decide) rfl ?_
      refine XS.aloadN X0.here hexec rfl (hb hbytes d7) rfl rfl ?_
      exact Steps.refl _)
    obtain ⟨T3, X3, q3, st3⟩ := cinst X0 hexec hown (wk W (.classLink "java/lang/String" 10 "java/lang/String")) (hy.mv X0.warmed.alike hh0).1 (g := (mkF m 8 #[.val (.ref x), .val (.ref y), .unset] [.ref y])) rfl (rest := []) rfl (hb hbytes d8)
    have hh3 := q3.trans hh0
    have c4 : Steps p.tables e below (s₁.setTop (entryFrame m #[.ref x, .ref y] 3)) (T3.setTop (mkF m 15 #[.val (.ref x), .val (.ref y), .unset] [.ref y])) := (c2.trans (st3 _ (Steps.refl _))).trans (by
      refine XS.ifNo X3.here hexec rfl (hb hbytes d11) rfl (i0_eq_f (by decide)) ?_
      refine XS.aloadN X3.here hexec rfl (hb hbytes d14) rfl rfl ?_
      exact Steps.refl _)
    obtain ⟨T5, X5, q5, st5⟩ := cself X3 hexec hown (wk W (.classLink "java/lang/String" 10 "java/lang/String")) (hy.mv X3.warmed.alike hh3).1 (g := (mkF m 15 #[.val (.ref x), .val (.ref y), .unset] [.ref y])) rfl (rest := []) rfl (hb hbytes d15)
    have hh5 := q5.trans hh3
    have c6 : Steps p.tables e below (s₁.setTop (entryFrame m #[.ref x, .ref y] 3)) (T5.setTop (mkF m 19 #[.val (.ref x), .val (.ref y), .val (.ref y)] [])) := (c4.trans (st5 _ (Steps.refl _))).trans (by
      refine XS.astoreN X5.here hexec rfl (hb hbytes d18) rfl rfl rfl ?_
      exact Steps.refl _)
    obtain ⟨T7, X7, q7, st7⟩ := X5.sget hexec hown (wk W (.fieldLink "java/lang/String" 38 "java/lang/String" "COMPACT_STRINGS" "Z")) s1 (fun _ _ h => by rw [hh5]; exact h) (g := (mkF m 19 #[.val (.ref x), .val (.ref y), .val (.ref y)] [])) rfl (hb hbytes d19)
    have hh7 := q7.trans hh5
    have c8 : Steps p.tables e below (s₁.setTop (entryFrame m #[.ref x, .ref y] 3)) (T7.setTop (mkF m 26 #[.val (.ref x), .val (.ref y), .val (.ref y)] [.ref x])) := (c6.trans (st7 _ (Steps.refl _))).trans (by
      refine XS.ifNo X7.here hexec rfl (hb hbytes d22) rfl (i0_eq_f hz) ?_
      refine XS.aloadN X7.here hexec rfl (hb hbytes d25) rfl rfl ?_
      exact Steps.refl _)
    obtain ⟨T9, X9, q9, st9⟩ := X7.hget hexec hown (wk W (.fieldLink "java/lang/String" 15 "java/lang/String" "coder" "B")) (hx.mv X7.warmed.alike hh7).2.2.1 (g := (mkF m 26 #[.val (.ref x), .val (.ref y), .val (.ref y)] [.ref x])) rfl (rest := []) rfl (hb hbytes d26)
    have hh9 := q9.trans hh7
    have c10 : Steps p.tables e below (s₁.setTop (entryFrame m #[.ref x, .ref y] 3)) (T9.setTop (mkF m 30 #[.val (.ref x), .val (.ref y), .val (.ref y)] [.ref y, .int cd])) := (c8.trans (st9 _ (Steps.refl _))).trans (by
      refine XS.aloadN X9.here hexec rfl (hb hbytes d29) rfl rfl ?_
      exact Steps.refl _)
    obtain ⟨T11, X11, q11, st11⟩ := X9.hget hexec hown (wk W (.fieldLink "java/lang/String" 15 "java/lang/String" "coder" "B")) (hy.mv X9.warmed.alike hh9).2.2.1 (g := (mkF m 30 #[.val (.ref x), .val (.ref y), .val (.ref y)] [.ref y, .int cd])) rfl (rest := [.int cd]) rfl (hb hbytes d30)
    have hh11 := q11.trans hh9
    have c12 : Steps p.tables e below (s₁.setTop (entryFrame m #[.ref x, .ref y] 3)) (T11.setTop (mkF m 33 #[.val (.ref x), .val (.ref y), .val (.ref y)] [.int cd', .int cd])) := c10.trans (st11 _ (Steps.refl _))
    by_cases hcd : cd = cd'
    · subst hcd
      have c13 : Steps p.tables e below (s₁.setTop (entryFrame m #[.ref x, .ref y] 3)) (T11.setTop (mkF m 37 #[.val (.ref x), .val (.ref y), .val (.ref y)] [.ref x])) := c12.trans (by
        refine XS.icmpNo X11.here hexec rfl (hb hbytes d33) rfl (ii_ne_f rfl) ?_
        refine XS.aloadN X11.here hexec rfl (hb hbytes d36) rfl rfl ?_
        exact Steps.refl _)
      obtain ⟨T14, X14, q14, st14⟩ := X11.hget hexec hown (wk W (.fieldLink "java/lang/String" 9 "java/lang/String" "value" "[B")) (hx.mv X11.warmed.alike hh11).2.1 (g := (mkF m 37 #[.val (.ref x), .val (.ref y), .val (.ref y)] [.ref x])) rfl (rest := []) rfl (hb hbytes d37)
      have hh14 := q14.trans hh11
      have c15 : Steps p.tables e below (s₁.setTop (entryFrame m #[.ref x, .ref y] 3)) (T14.setTop (mkF m 41 #[.val (.ref x), .val (.ref y), .val (.ref y)] [.ref y, .ref t])) := (c13.trans (st14 _ (Steps.refl _))).trans (by
        refine XS.aloadN X14.here hexec rfl (hb hbytes d40) rfl rfl ?_
        exact Steps.refl _)
      obtain ⟨T16, X16, q16, st16⟩ := X14.hget hexec hown (wk W (.fieldLink "java/lang/String" 9 "java/lang/String" "value" "[B")) (hy.mv X14.warmed.alike hh14).2.1 (g := (mkF m 41 #[.val (.ref x), .val (.ref y), .val (.ref y)] [.ref y, .ref t])) rfl (rest := [.ref t]) rfl (hb hbytes d41)
      have hh16 := q16.trans hh14
      have c17 : Steps p.tables e below (s₁.setTop (entryFrame m #[.ref x, .ref y] 3)) (T16.setTop (mkF m 44 #[.val (.ref x), .val (.ref y), .val (.ref y)] [.ref t', .ref t])) := c15.trans (st16 _ (Steps.refl _))
      obtain ⟨v18, T18, X18, E18, g18⟩ := X16.callS hexec (LEq.law l t V t' V') hown (wks W (staticW "java/lang/String" 541 LEq.yN)) (wk W LEq.tab) (W := 0) (Nat.le_of_ble_eq_true rfl) (Nat.le_of_ble_eq_true rfl) (Nat.le_refl _) (Nat.le_refl _) (g := (mkF m 44 #[.val (.ref x), .val (.ref y), .val (.ref y)] [.ref t', .ref t])) rfl (by rw [hml]; rfl) c17 (argsL := [.ref t, .ref t']) (rest := []) rfl rfl (by show 2 * 0 + 0 ≤ _; decide) (hb hbytes d44) (⟨rfl, hx.2.2.2.1.mv X16.warmed.alike hh16, hx.2.2.2.2.1.ty, hy.2.2.2.1.mv X16.warmed.alike hh16, hy.2.2.2.2.1.ty⟩)
      obtain ⟨v, rfl, q18, hv⟩ := E18
      have iff := Cod.eqv hx.2.2.2.2.1 hy.2.2.2.2.1 hx.2.2.2.2.2 hy.2.2.2.2.2
      rcases hv with ⟨rfl, he⟩ | ⟨rfl, he⟩
      · have c19 : Steps p.tables e below (s₁.setTop (entryFrame m #[.ref x, .ref y] 3)) (T18.setTop (mkF m 55 #[.val (.ref x), .val (.ref y), .val (.ref y)] [.int 1])) := Steps.trans g18 (by
          refine XS.ifNo X18.here hexec rfl (hb hbytes d47) rfl (i0_eq_f (by decide)) ?_
          refine iconstV X18.here hexec rfl 1 (hb hbytes d50) (by decide) ?_
          refine XS.goto X18.here hexec rfl (pc0 := 51) rfl (hb hbytes d51) (by decide) rfl ?_
          exact Steps.refl _)
        exact ⟨T18, some (.int 1), _, _, _, X18, rfl, rfl, rfl, (fun h => by cases h), ⟨1, rfl, q18.trans hh16, Or.inl ⟨rfl, iff.mp he⟩⟩, fun fs hl => c19.trans (X18.ireturnOut hexec hret rfl (Or.inr (Or.inl rfl)) (hb hbytes d55) hl)⟩
      · have c19 : Steps p.tables e below (s₁.setTop (entryFrame m #[.ref x, .ref y] 3)) (T18.setTop (mkF m 55 #[.val (.ref x), .val (.ref y), .val (.ref y)] [.int 0])) := Steps.trans g18 (by
          refine XS.ifYes X18.here hexec rfl (pc0 := 47) rfl (hb hbytes d47) rfl (i0_eq_t rfl) (by decide) rfl ?_
          refine iconstV X18.here hexec rfl 0 (hb hbytes d54) (by decide) ?_
          exact Steps.refl _)
        exact ⟨T18, some (.int 0), _, _, _, X18, rfl, rfl, rfl, (fun h => by cases h), ⟨0, rfl, q18.trans hh16, Or.inr ⟨rfl, fun q => he (iff.mpr q)⟩⟩, fun fs hl => c19.trans (X18.ireturnOut hexec hret rfl (Or.inr (Or.inl rfl)) (hb hbytes d55) hl)⟩
    · have c13 : Steps p.tables e below (s₁.setTop (entryFrame m #[.ref x, .ref y] 3)) (T11.setTop (mkF m 55 #[.val (.ref x), .val (.ref y), .val (.ref y)] [.int 0])) := c12.trans (by
        refine XS.icmpYes X11.here hexec rfl (pc0 := 33) rfl (hb hbytes d33) rfl (ii_ne_t hcd) (by decide) rfl ?_
        refine iconstV X11.here hexec rfl 0 (hb hbytes d54) (by decide) ?_
        exact Steps.refl _)
      exact ⟨T11, some (.int 0), _, _, _, X11, rfl, rfl, rfl, (fun h => by cases h), ⟨0, rfl, hh11, Or.inr ⟨rfl, Cod.dif hx.2.2.2.2.1 hy.2.2.2.2.1 hcd⟩⟩, fun fs hl => c13.trans (X11.ireturnOut hexec hret rfl (Or.inr (Or.inl rfl)) (hb hbytes d55) hl)⟩
theorem pays {l : Launch} {R : Room} {p : Program} {e : Env} {below : List Frame} {s : State} {sargs : Array Value} {len W : Nat} (x t : Addr) (V : Cell) (cd : Int32) (n : Nat) (f : Nat → Int32) (y t' : Addr) (V' : Cell) (cd' : Int32) (k : Nat) (g : Nat → Int32) (z : Int32) (htab : tab.before sargs s = true) (hfr : 2 ≤ R.frames) (hlo : W + 28 ≤ R.locals) :
    Back l R p e below s sargs yN len W (fun A₁ a₁ => A₁.cells + 0 ≤ R.cells ∧ A₁.slots + 0 ≤ R.slots ∧ P x t V cd n f y t' V' cd' k g z a₁ A₁.U) (fun A₁ _ v₁ B₁ => Says01 (SameT n f k g) v₁ A₁.U B₁.U ∧ B₁.locs = A₁.locs ++ [] ∧ B₁.cells = A₁.cells + 0 ∧ B₁.slots = A₁.slots + 0) :=
  (law l x t V cd n f y t' V' cd' k g z).pays htab hfr (by omega)
end SEq
end StrChars
namespace StrChars.Road
open Jvm Sem ClassFile Op Lib Jvm.Stand Jvm.Free Jvm.Free.XT
open Jvm.Lib.Cold (StaticIs)
/-- the words of String.equals(Object) -/
abbrev wordsEq : List Jvm.Cond := [.code SEq.yN SEq.yB 3 (some .boolean), .initialized ST, .classLink ST 10 ST, .fieldLink ST 38 ST "COMPACT_STRINGS" "Z", .fieldLink ST 15 ST "coder" "B", .fieldLink ST 9 ST "value" "[B", .methodLink ST 541 LEq.yN, .static LEq.yN, .code LEq.yN LEq.yB 3 (some .boolean), .initialized "java/lang/StringLatin1"]
theorem tabEq_of {a : Array Value} {s : State} (h : ∀ w ∈ wordsEq, w.before a s = true) : SEq.tab.before a s = true := by
  have hl : LEq.tab.before a s = true := unparts (wk h (.code LEq.yN LEq.yB 3 (some .boolean))) (wks h (.initialized LEq.yN.cls :: LEq.site))
  have q := consq hl h
  exact unparts (wk q (.code SEq.yN SEq.yB 3 (some .boolean))) (wks q (.initialized SEq.yN.cls :: SEq.site))
theorem movedEq {Z s : State} {a0 args : Array Value} (hZ : Z.Warmed39 s.vm) (hw : ∀ d ∈ wordsEq, d.before a0 Z = true) : ∀ d ∈ wordsEq, d.before args s = true := fun d hd => by
  have t : ∀ d ∈ wordsEq, (d.onTables && d.keepsFace) = true := by decide +kernel
  exact RoadKit.mv hZ (hw d hd) (t d hd)
/-- the road's facts of a String, as the laws ask it -/
theorem txt_of {Z U : State} {a0 : Array Value} {kI : Nat} (wi : (Jvm.Cond.instantiable ST kI).before a0 Z = true) (al : Z.vm.Alike U.vm) {x t : Addr} {kb : ClassId} {cs : List Int32} {cd N2 : Int32} {vs : List Value} (E : RoadKit.Exa Z U.heap x ST) (V : RoadKit.Fld Z U.heap x ST "value" "[B" (.ref t)) (C : RoadKit.Fld Z U.heap x ST "coder" "B" (.int cd)) (K : RoadKit.Arv Z U.heap t kb .byte N2 vs (.int 0)) (hc : CodA cs cd N2 vs) (hb : ∀ c ∈ cs, ¬ c < 0 ∧ ¬ (65535 : Int32) < c) (l2 : cs.length ≤ 4000) :
    ∃ A, Txt x t A cd cs.length (fun j => cs.getD j 0) U := by
  obtain ⟨A, K1, K2, K3, K4, K5, K6⟩ := K
  have hcod := hc.cod (by omega) K3 K5
  obtain ⟨D, fV, fC, hB, F1, F2, g1, g2, -, -⟩ := strObj wi al E V C
  exact ⟨A, ⟨_, hB.2.2.1, D, hB.1, rfl, by cases q : D.vm <;> first | rfl | exact absurd q (hB.2.1.2 _)⟩, Has.of hB F1 g1, Has.of hB F2 g2, ⟨K1.1, State.isArrayOf_alike al K1.2.1, K1.2.2, by rcases hcod with ⟨-, q, -⟩ | ⟨-, q, -⟩ <;> omega⟩, hcod, fun j hj => by
    have e : cs.getD j 0 = cs[j] := by simp [List.getD_eq_getElem?_getD, hj]
    show ¬ cs.getD j 0 < 0 ∧ ¬ 65535 < cs.getD j 0
    rw [e]; exact hb _ (List.getElem_mem _)⟩
theorem same_list (cs ds : List Int32) : SameT cs.length (fun j => cs.getD j 0) ds.length (fun j => ds.getD j 0) ↔ cs = ds := by
  constructor
  · rintro ⟨e, q⟩
    refine List.ext_getElem e fun j h1 h2 => ?_
    have := q j h1
    simpa [List.getD_eq_getElem?_getD, h1, h2] using this
  · rintro rfl
    exact ⟨rfl, fun _ _ => rfl⟩
/-- **equals(Object) OF TWO SUCH STRINGS**: 1 just where the chars are the same -/
theorem eqW {p : Program} {l : Launch} {e : Env} {R : Room} {s : State} {args : Array Value} {below : List Frame} {len W : Nat} {Z : State} {a0 : Array Value} {h : Heap} (hZ : Z.Warmed39 s.vm) (hw : ∀ d ∈ wordsEq, d.before a0 Z = true) {kI : Nat} (wi : (Jvm.Cond.instantiable ST kI).before a0 Z = true)
    {x t : Addr} {kb : ClassId} {cs : List Int32} {cd N2 : Int32} {vs : List Value} (E : RoadKit.Exa Z h x ST) (V : RoadKit.Fld Z h x ST "value" "[B" (.ref t)) (C : RoadKit.Fld Z h x ST "coder" "B" (.int cd)) (K : RoadKit.Arv Z h t kb .byte N2 vs (.int 0)) (hc : CodA cs cd N2 vs) (hb : ∀ c ∈ cs, ¬ c < 0 ∧ ¬ (65535 : Int32) < c) (l2 : cs.length ≤ 4000)
    {y t' : Addr} {kb' : ClassId} {ds : List Int32} {cd' N2' : Int32} {vs' : List Value} (E' : RoadKit.Exa Z h y ST) (V' : RoadKit.Fld Z h y ST "value" "[B" (.ref t')) (C' : RoadKit.Fld Z h y ST "coder" "B" (.int cd')) (K' : RoadKit.Arv Z h t' kb' .byte N2' vs' (.int 0)) (hc' : CodA ds cd' N2' vs') (hb' : ∀ c ∈ ds, ¬ c < 0 ∧ ¬ (65535 : Int32) < c) (l2' : ds.length ≤ 4000)
    {z : Int32} (S : RoadKit.Sta Z h ST "COMPACT_STRINGS" "Z" (.int z)) (hz : ¬ z = 0) (hfr : 2 ≤ R.frames) (hlo : W + 28 ≤ R.locals) :
    Back l R p e below s args (⟨"java/lang/String", "equals", "(Ljava/lang/Object;)Z"⟩ : MethodName) len W (fun P a => a = #[.ref x, .ref y] ∧ P.U.heap = h ∧ P.cells + 0 ≤ R.cells ∧ P.slots + 0 ≤ R.slots)
      (fun P _ v B => ∃ L, (((v = some (.int 1) ∧ cs = ds) ∨ (v = some (.int 0) ∧ ¬ cs = ds)) ∧ L = [] ∧ B.U.heap = h) ∧ B.locs = P.locs ++ L ∧ B.cells = P.cells + 0 ∧ B.slots = P.slots + 0) := by
  intro m meth c P g ig mk a X hg hsize hdg hW hn hp'
  obtain ⟨rfl, rfl, r1, r2⟩ := hp'
  have al : Z.vm.Alike P.U.vm := hZ.alike.trans X.warmed.alike
  obtain ⟨A, hx⟩ := txt_of wi al E V C K hc hb l2
  obtain ⟨A', hy⟩ := txt_of wi al E' V' C' K' hc' hb' l2'
  obtain ⟨v, B, X', ⟨⟨w, hv, hh, hq⟩, hl, hk, hs⟩, st⟩ := SEq.pays x t A cd cs.length (fun j => cs.getD j 0) y t' A' cd' ds.length (fun j => ds.getD j 0) z (tabEq_of (movedEq hZ hw)) hfr hlo m meth c P g ig mk _ X hg hsize hdg hW hn ⟨r1, r2, rfl, hx, hy, sta_is al S, hz⟩
  refine ⟨v, B, X', ⟨[], ⟨?_, rfl, hh⟩, hl, hk, hs⟩, st⟩
  rcases hq with ⟨rfl, q⟩ | ⟨rfl, q⟩
  · exact Or.inl ⟨hv, (same_list cs ds).mp q⟩
  · exact Or.inr ⟨hv, fun e => q ((same_list cs ds).mpr e)⟩
end StrChars.Road
end Jvm.Pilot.@@N@@
namespace Jvm.Pilot.@@N@@
open Jvm Jvm.ClassFile Sem Op Lib Jvm.Free Jvm.Stand Jvm.LawKit Jvm.RoadKit Bundle Jvm.Own Jvm.Pilot.@@N@@.Jvm.D
abbrev own_EL : List (String × Nat) := consts_1
theorem lt0_a : ∀ c ∈ ("" : String).toList, c.toNat < 256 := by decide +kernel
theorem lt0_b : ("" : String).toList.map (fun c => Value.int (Jvm.Lit.byteI c.toNat.toUInt16)) = (([] : List Int32) : List Int32).map fun c => Value.int c.toInt8.toInt32 := by decide +kernel
theorem lt0_c : ∀ c ∈ (([] : List Int32) : List Int32), ¬ c < 0 ∧ ¬ (255 : Int32) < c := by decide +kernel
theorem lt0_d : 4 * ("" : String).toList.length = 0 := by decide +kernel
theorem lt1_a : ∀ c ∈ ("client_secret_basic" : String).toList, c.toNat < 256 := by decide +kernel
theorem lt1_b : ("client_secret_basic" : String).toList.map (fun c => Value.int (Jvm.Lit.byteI c.toNat.toUInt16)) = ([(99 : Int32), (108 : Int32), (105 : Int32), (101 : Int32), (110 : Int32), (116 : Int32), (95 : Int32), (115 : Int32), (101 : Int32), (99 : Int32), (114 : Int32), (101 : Int32), (116 : Int32), (95 : Int32), (98 : Int32), (97 : Int32), (115 : Int32), (105 : Int32), (99 : Int32)] : List Int32).map fun c => Value.int c.toInt8.toInt32 := by decide +kernel
theorem lt1_c : ∀ c ∈ ([(99 : Int32), (108 : Int32), (105 : Int32), (101 : Int32), (110 : Int32), (116 : Int32), (95 : Int32), (115 : Int32), (101 : Int32), (99 : Int32), (114 : Int32), (101 : Int32), (116 : Int32), (95 : Int32), (98 : Int32), (97 : Int32), (115 : Int32), (105 : Int32), (99 : Int32)] : List Int32), ¬ c < 0 ∧ ¬ (255 : Int32) < c := by decide +kernel
theorem lt1_d : 4 * ("client_secret_basic" : String).toList.length = 76 := by decide +kernel
theorem lt2_a : ∀ c ∈ ("client_secret_post" : String).toList, c.toNat < 256 := by decide +kernel
theorem lt2_b : ("client_secret_post" : String).toList.map (fun c => Value.int (Jvm.Lit.byteI c.toNat.toUInt16)) = ([(99 : Int32), (108 : Int32), (105 : Int32), (101 : Int32), (110 : Int32), (116 : Int32), (95 : Int32), (115 : Int32), (101 : Int32), (99 : Int32), (114 : Int32), (101 : Int32), (116 : Int32), (95 : Int32), (112 : Int32), (111 : Int32), (115 : Int32), (116 : Int32)] : List Int32).map fun c => Value.int c.toInt8.toInt32 := by decide +kernel
theorem lt2_c : ∀ c ∈ ([(99 : Int32), (108 : Int32), (105 : Int32), (101 : Int32), (110 : Int32), (116 : Int32), (95 : Int32), (115 : Int32), (101 : Int32), (99 : Int32), (114 : Int32), (101 : Int32), (116 : Int32), (95 : Int32), (112 : Int32), (111 : Int32), (115 : Int32), (116 : Int32)] : List Int32), ¬ c < 0 ∧ ¬ (255 : Int32) < c := by decide +kernel
theorem lt2_d : 4 * ("client_secret_post" : String).toList.length = 72 := by decide +kernel
theorem wd_0 : (Jvm.Cond.methodLink "com/example/grant/grant/providers/ClientAuthenticationNamedPinLaw" (7 : Nat) ({ cls := "com/example/grant/grant/providers/ClientAuthenticationNamedPinLaw", name := "postName", desc := "()[C" } : Jvm.MethodName)) ∈ tables_1 := List.mem_of_getElem? (i := 0) rfl
theorem wd_1 : (Jvm.Cond.static ({ cls := "com/example/grant/grant/providers/ClientAuthenticationNamedPinLaw", name := "postName", desc := "()[C" } : Jvm.MethodName)) ∈ tables_1 := List.mem_of_getElem? (i := 1) rfl
theorem wd_2 : (Jvm.Cond.initialized "com/example/grant/grant/providers/ClientAuthenticationNamedPinLaw") ∈ tables_1 := List.mem_of_getElem? (i := 2) rfl
theorem wd_3 : (Jvm.Cond.code ({ cls := "com/example/grant/grant/providers/ClientAuthenticationNamedPinLaw", name := "postName", desc := "()[C" } : Jvm.MethodName) method_3_code (0 : Nat) (Option.some (Jvm.ClassFile.FieldType.array Jvm.ClassFile.FieldType.char))) ∈ tables_1 := List.mem_of_getElem? (i := 3) rfl
theorem wd_4 : (Jvm.Cond.arrayClass Jvm.ClassFile.FieldType.char) ∈ tables_1 := List.mem_of_getElem? (i := 4) rfl
theorem wd_5 : (Jvm.Cond.classLink "com/example/grant/grant/providers/ClientAuthenticationNamedPinLaw" (17 : Nat) "java/lang/String") ∈ tables_1 := List.mem_of_getElem? (i := 5) rfl
theorem wd_6 : (Jvm.Cond.instantiable "java/lang/String" (4 : Nat)) ∈ tables_1 := List.mem_of_getElem? (i := 6) rfl
theorem wd_7 : (Jvm.Cond.initialized "java/lang/String") ∈ tables_1 := List.mem_of_getElem? (i := 7) rfl
theorem wd_8 : (Jvm.Cond.methodLink "com/example/grant/grant/providers/ClientAuthenticationNamedPinLaw" (19 : Nat) ({ cls := "java/lang/String", name := "<init>", desc := "([C)V" } : Jvm.MethodName)) ∈ tables_1 := List.mem_of_getElem? (i := 8) rfl
theorem wd_9 : (Jvm.Cond.instanceMethod ({ cls := "java/lang/String", name := "<init>", desc := "([C)V" } : Jvm.MethodName)) ∈ tables_1 := List.mem_of_getElem? (i := 9) rfl
theorem wd_10 : (Jvm.Cond.code ({ cls := "java/lang/String", name := "<init>", desc := "([C)V" } : Jvm.MethodName) jdk_42_method_3_code (2 : Nat) (Option.none : Option Jvm.ClassFile.FieldType)) ∈ tables_1 := List.mem_of_getElem? (i := 10) rfl
theorem wd_11 : (Jvm.Cond.methodLink "java/lang/String" (27 : Nat) ({ cls := "java/lang/String", name := "<init>", desc := "([CIILjava/lang/Void;)V" } : Jvm.MethodName)) ∈ tables_1 := List.mem_of_getElem? (i := 11) rfl
theorem wd_12 : (Jvm.Cond.instanceMethod ({ cls := "java/lang/String", name := "<init>", desc := "([CIILjava/lang/Void;)V" } : Jvm.MethodName)) ∈ tables_1 := List.mem_of_getElem? (i := 12) rfl
theorem wd_14 : (Jvm.Cond.code ({ cls := "java/lang/String", name := "<init>", desc := "([CIILjava/lang/Void;)V" } : Jvm.MethodName) jdk_42_method_149_code (6 : Nat) (Option.none : Option Jvm.ClassFile.FieldType)) ∈ tables_1 := List.mem_of_getElem? (i := 14) rfl
theorem wd_15 : (Jvm.Cond.methodLink "java/lang/String" (1 : Nat) ({ cls := "java/lang/Object", name := "<init>", desc := "()V" } : Jvm.MethodName)) ∈ tables_1 := List.mem_of_getElem? (i := 15) rfl
theorem wd_16 : (Jvm.Cond.instanceMethod ({ cls := "java/lang/Object", name := "<init>", desc := "()V" } : Jvm.MethodName)) ∈ tables_1 := List.mem_of_getElem? (i := 16) rfl
theorem wd_17 : (Jvm.Cond.code ({ cls := "java/lang/Object", name := "<init>", desc := "()V" } : Jvm.MethodName) object_method_1_code (1 : Nat) (Option.none : Option Jvm.ClassFile.FieldType)) ∈ tables_1 := List.mem_of_getElem? (i := 17) rfl
theorem wd_23 : (Jvm.Cond.arrayClass Jvm.ClassFile.FieldType.byte) ∈ tables_1 := List.mem_of_getElem? (i := 23) rfl
theorem wd_30 : (Jvm.Cond.fieldLink "java/lang/String" (15 : Nat) "java/lang/String" "coder" "B") ∈ tables_1 := List.mem_of_getElem? (i := 30) rfl
theorem wd_31 : (Jvm.Cond.laysFinal "java/lang/String" "java/lang/String" "coder" "B") ∈ tables_1 := List.mem_of_getElem? (i := 31) rfl
theorem wd_32 : (Jvm.Cond.fieldLink "java/lang/String" (9 : Nat) "java/lang/String" "value" "[B") ∈ tables_1 := List.mem_of_getElem? (i := 32) rfl
theorem wd_33 : (Jvm.Cond.laysFinal "java/lang/String" "java/lang/String" "value" "[B") ∈ tables_1 := List.mem_of_getElem? (i := 33) rfl
theorem wd_34 : (Jvm.Cond.stringLink "com/example/grant/grant/providers/ClientAuthenticationNamedPinLaw" (33 : Nat) "client_secret_basic") ∈ tables_1 := List.mem_of_getElem? (i := 34) rfl
theorem wd_35 : (Jvm.Cond.soleField "java/lang/String" "value") ∈ tables_1 := List.mem_of_getElem? (i := 35) rfl
theorem wd_36 : (Jvm.Cond.soleField "java/lang/String" "coder") ∈ tables_1 := List.mem_of_getElem? (i := 36) rfl
theorem wd_37 : (Jvm.Cond.methodLink "com/example/grant/grant/providers/ClientAuthenticationNamedPinLaw" (35 : Nat) ({ cls := "java/lang/String", name := "equals", desc := "(Ljava/lang/Object;)Z" } : Jvm.MethodName)) ∈ tables_1 := List.mem_of_getElem? (i := 37) rfl
theorem wd_38 : (Jvm.Cond.declares ({ cls := "java/lang/String", name := "equals", desc := "(Ljava/lang/Object;)Z" } : Jvm.MethodName)) ∈ tables_1 := List.mem_of_getElem? (i := 38) rfl
theorem wd_39 : (Jvm.Cond.instanceMethod ({ cls := "java/lang/String", name := "equals", desc := "(Ljava/lang/Object;)Z" } : Jvm.MethodName)) ∈ tables_1 := List.mem_of_getElem? (i := 39) rfl
theorem wd_40 : (Jvm.Cond.selects "java/lang/String" ({ cls := "java/lang/String", name := "equals", desc := "(Ljava/lang/Object;)Z" } : Jvm.MethodName) ({ cls := "java/lang/String", name := "equals", desc := "(Ljava/lang/Object;)Z" } : Jvm.MethodName)) ∈ tables_1 := List.mem_of_getElem? (i := 40) rfl
theorem wd_41 : (Jvm.Cond.code ({ cls := "java/lang/String", name := "equals", desc := "(Ljava/lang/Object;)Z" } : Jvm.MethodName) jdk_42_method_66_code (3 : Nat) (Option.some Jvm.ClassFile.FieldType.boolean)) ∈ tables_1 := List.mem_of_getElem? (i := 41) rfl
theorem wd_47 : (Jvm.Cond.stringLink "com/example/grant/grant/providers/ClientAuthenticationNamedPinLaw" (45 : Nat) "client_secret_post") ∈ tables_1 := List.mem_of_getElem? (i := 47) rfl
theorem wd_48 : (Jvm.Cond.fieldLink "com/example/grant/grant/providers/ClientAuthenticationNamedPinLaw" (47 : Nat) "com/example/grant/grant/providers/ClientAuthentication" "POST" "Lcom/example/grant/grant/providers/ClientAuthentication;") ∈ tables_1 := List.mem_of_getElem? (i := 48) rfl
theorem wd_49 : (Jvm.Cond.initialized "com/example/grant/grant/providers/ClientAuthentication") ∈ tables_1 := List.mem_of_getElem? (i := 49) rfl
theorem wd_50 : (Jvm.Cond.laysStatic "com/example/grant/grant/providers/ClientAuthentication" "POST" "Lcom/example/grant/grant/providers/ClientAuthentication;") ∈ tables_1 := List.mem_of_getElem? (i := 50) rfl
theorem wd_51 : (Jvm.Cond.methodLink "com/example/grant/grant/providers/ClientAuthenticationNamedPinLaw" (50 : Nat) ({ cls := "com/example/grant/grant/providers/ClientAuthentication", name := "named", desc := "(Ljava/lang/String;)Lcom/example/grant/grant/providers/ClientAuthentication;" } : Jvm.MethodName)) ∈ tables_1 := List.mem_of_getElem? (i := 51) rfl
theorem wd_52 : (Jvm.Cond.static ({ cls := "com/example/grant/grant/providers/ClientAuthentication", name := "named", desc := "(Ljava/lang/String;)Lcom/example/grant/grant/providers/ClientAuthentication;" } : Jvm.MethodName)) ∈ tables_1 := List.mem_of_getElem? (i := 52) rfl
theorem wd_53 : (Jvm.Cond.code ({ cls := "com/example/grant/grant/providers/ClientAuthentication", name := "named", desc := "(Ljava/lang/String;)Lcom/example/grant/grant/providers/ClientAuthentication;" } : Jvm.MethodName) prog_12_method_5_code (5 : Nat) (Option.some (Jvm.ClassFile.FieldType.object "com/example/grant/grant/providers/ClientAuthentication"))) ∈ tables_1 := List.mem_of_getElem? (i := 53) rfl
theorem wd_54 : (Jvm.Cond.methodLink "com/example/grant/grant/providers/ClientAuthentication" (33 : Nat) ({ cls := "com/example/grant/grant/providers/ClientAuthentication", name := "values", desc := "()[Lcom/example/grant/grant/providers/ClientAuthentication;" } : Jvm.MethodName)) ∈ tables_1 := List.mem_of_getElem? (i := 54) rfl
theorem wd_55 : (Jvm.Cond.static ({ cls := "com/example/grant/grant/providers/ClientAuthentication", name := "values", desc := "()[Lcom/example/grant/grant/providers/ClientAuthentication;" } : Jvm.MethodName)) ∈ tables_1 := List.mem_of_getElem? (i := 55) rfl
theorem wd_56 : (Jvm.Cond.code ({ cls := "com/example/grant/grant/providers/ClientAuthentication", name := "values", desc := "()[Lcom/example/grant/grant/providers/ClientAuthentication;" } : Jvm.MethodName) prog_12_method_1_code (0 : Nat) (Option.some (Jvm.ClassFile.FieldType.array (Jvm.ClassFile.FieldType.object "com/example/grant/grant/providers/ClientAuthentication")))) ∈ tables_1 := List.mem_of_getElem? (i := 56) rfl
theorem wd_57 : (Jvm.Cond.fieldLink "com/example/grant/grant/providers/ClientAuthentication" (10 : Nat) "com/example/grant/grant/providers/ClientAuthentication" "$VALUES" "[Lcom/example/grant/grant/providers/ClientAuthentication;") ∈ tables_1 := List.mem_of_getElem? (i := 57) rfl
theorem wd_58 : (Jvm.Cond.laysStatic "com/example/grant/grant/providers/ClientAuthentication" "$VALUES" "[Lcom/example/grant/grant/providers/ClientAuthentication;") ∈ tables_1 := List.mem_of_getElem? (i := 58) rfl
theorem wd_59 : (Jvm.Cond.methodLink "com/example/grant/grant/providers/ClientAuthentication" (14 : Nat) ({ cls := "[Lcom/example/grant/grant/providers/ClientAuthentication;", name := "clone", desc := "()Ljava/lang/Object;" } : Jvm.MethodName)) ∈ tables_1 := List.mem_of_getElem? (i := 59) rfl
theorem wd_60 : (Jvm.Cond.sameMethod "[Lcom/example/grant/grant/providers/ClientAuthentication;" "java/lang/Object" "clone" "()Ljava/lang/Object;") ∈ tables_1 := List.mem_of_getElem? (i := 60) rfl
theorem wd_62 : (Jvm.Cond.instanceMethod ({ cls := "java/lang/Object", name := "clone", desc := "()Ljava/lang/Object;" } : Jvm.MethodName)) ∈ tables_1 := List.mem_of_getElem? (i := 62) rfl
theorem wd_63 : (Jvm.Cond.selects "[Lcom/example/grant/grant/providers/ClientAuthentication;" ({ cls := "[Lcom/example/grant/grant/providers/ClientAuthentication;", name := "clone", desc := "()Ljava/lang/Object;" } : Jvm.MethodName) ({ cls := "java/lang/Object", name := "clone", desc := "()Ljava/lang/Object;" } : Jvm.MethodName)) ∈ tables_1 := List.mem_of_getElem? (i := 63) rfl
theorem wd_64 : (Jvm.Cond.native ({ cls := "java/lang/Object", name := "clone", desc := "()Ljava/lang/Object;" } : Jvm.MethodName)) ∈ tables_1 := List.mem_of_getElem? (i := 64) rfl
theorem wd_65 : (Jvm.Cond.castable "[Lcom/example/grant/grant/providers/ClientAuthentication;" "java/lang/Cloneable") ∈ tables_1 := List.mem_of_getElem? (i := 65) rfl
theorem wd_66 : (Jvm.Cond.laysStatic "com/example/grant/grant/providers/ClientAuthentication" "BASIC" "Lcom/example/grant/grant/providers/ClientAuthentication;") ∈ tables_1 := List.mem_of_getElem? (i := 66) rfl
theorem wd_68 : (Jvm.Cond.classLink "com/example/grant/grant/providers/ClientAuthentication" (15 : Nat) "[Lcom/example/grant/grant/providers/ClientAuthentication;") ∈ tables_1 := List.mem_of_getElem? (i := 68) rfl
theorem wd_70 : (Jvm.Cond.fieldLink "com/example/grant/grant/providers/ClientAuthentication" (29 : Nat) "com/example/grant/grant/providers/ClientAuthentication" "method" "Ljava/lang/String;") ∈ tables_1 := List.mem_of_getElem? (i := 70) rfl
theorem wd_72 : (Jvm.Cond.methodLink "com/example/grant/grant/providers/ClientAuthentication" (37 : Nat) ({ cls := "java/lang/String", name := "equals", desc := "(Ljava/lang/Object;)Z" } : Jvm.MethodName)) ∈ tables_1 := List.mem_of_getElem? (i := 72) rfl
theorem wd_73 : (Jvm.Cond.methodLink "com/example/grant/grant/providers/ClientAuthenticationNamedPinLaw" (13 : Nat) ({ cls := "com/example/grant/grant/providers/ClientAuthenticationNamedPinLaw", name := "basicName", desc := "()[C" } : Jvm.MethodName)) ∈ tables_1 := List.mem_of_getElem? (i := 73) rfl
theorem wd_74 : (Jvm.Cond.static ({ cls := "com/example/grant/grant/providers/ClientAuthenticationNamedPinLaw", name := "basicName", desc := "()[C" } : Jvm.MethodName)) ∈ tables_1 := List.mem_of_getElem? (i := 74) rfl
theorem wd_75 : (Jvm.Cond.code ({ cls := "com/example/grant/grant/providers/ClientAuthenticationNamedPinLaw", name := "basicName", desc := "()[C" } : Jvm.MethodName) method_2_code (0 : Nat) (Option.some (Jvm.ClassFile.FieldType.array Jvm.ClassFile.FieldType.char))) ∈ tables_1 := List.mem_of_getElem? (i := 75) rfl
theorem wd_76 : (Jvm.Cond.constant "com/example/grant/grant/providers/ClientAuthenticationNamedPinLaw" (16 : Nat) (2147483647 : Int32)) ∈ tables_1 := List.mem_of_getElem? (i := 76) rfl
theorem wd_77 : (Jvm.Cond.methodLink "com/example/grant/grant/providers/ClientAuthenticationNamedPinLaw" (29 : Nat) ({ cls := "com/example/grant/grant/providers/ClientAuthenticationNamedPinLaw", name := "shortText", desc := "(ICCC)[C" } : Jvm.MethodName)) ∈ tables_1 := List.mem_of_getElem? (i := 77) rfl
theorem wd_78 : (Jvm.Cond.static ({ cls := "com/example/grant/grant/providers/ClientAuthenticationNamedPinLaw", name := "shortText", desc := "(ICCC)[C" } : Jvm.MethodName)) ∈ tables_1 := List.mem_of_getElem? (i := 78) rfl
theorem wd_79 : (Jvm.Cond.code ({ cls := "com/example/grant/grant/providers/ClientAuthenticationNamedPinLaw", name := "shortText", desc := "(ICCC)[C" } : Jvm.MethodName) method_6_code (4 : Nat) (Option.some (Jvm.ClassFile.FieldType.array Jvm.ClassFile.FieldType.char))) ∈ tables_1 := List.mem_of_getElem? (i := 79) rfl
theorem wd_80 : (Jvm.Cond.methodLink "com/example/grant/grant/providers/ClientAuthenticationNamedPinLaw" (26 : Nat) ({ cls := "com/example/grant/grant/providers/ClientAuthenticationNamedPinLaw", name := "basicPlus", desc := "(C)[C" } : Jvm.MethodName)) ∈ tables_1 := List.mem_of_getElem? (i := 80) rfl
theorem wd_81 : (Jvm.Cond.static ({ cls := "com/example/grant/grant/providers/ClientAuthenticationNamedPinLaw", name := "basicPlus", desc := "(C)[C" } : Jvm.MethodName)) ∈ tables_1 := List.mem_of_getElem? (i := 81) rfl
theorem wd_82 : (Jvm.Cond.code ({ cls := "com/example/grant/grant/providers/ClientAuthenticationNamedPinLaw", name := "basicPlus", desc := "(C)[C" } : Jvm.MethodName) method_4_code (1 : Nat) (Option.some (Jvm.ClassFile.FieldType.array Jvm.ClassFile.FieldType.char))) ∈ tables_1 := List.mem_of_getElem? (i := 82) rfl
theorem wd_83 : (Jvm.Cond.methodLink "com/example/grant/grant/providers/ClientAuthenticationNamedPinLaw" (22 : Nat) ({ cls := "com/example/grant/grant/providers/ClientAuthenticationNamedPinLaw", name := "postPlus", desc := "(C)[C" } : Jvm.MethodName)) ∈ tables_1 := List.mem_of_getElem? (i := 83) rfl
theorem wd_84 : (Jvm.Cond.static ({ cls := "com/example/grant/grant/providers/ClientAuthenticationNamedPinLaw", name := "postPlus", desc := "(C)[C" } : Jvm.MethodName)) ∈ tables_1 := List.mem_of_getElem? (i := 84) rfl
theorem wd_85 : (Jvm.Cond.code ({ cls := "com/example/grant/grant/providers/ClientAuthenticationNamedPinLaw", name := "postPlus", desc := "(C)[C" } : Jvm.MethodName) method_5_code (1 : Nat) (Option.some (Jvm.ClassFile.FieldType.array Jvm.ClassFile.FieldType.char))) ∈ tables_1 := List.mem_of_getElem? (i := 85) rfl
theorem wd_86 : (Jvm.Cond.fieldLink "com/example/grant/grant/providers/ClientAuthenticationNamedPinLaw" (39 : Nat) "com/example/grant/grant/providers/ClientAuthentication" "BASIC" "Lcom/example/grant/grant/providers/ClientAuthentication;") ∈ tables_1 := List.mem_of_getElem? (i := 86) rfl
theorem wd_87 : (Jvm.Cond.stringLink "java/lang/String" (7 : Nat) "") ∈ tables_1 := List.mem_of_getElem? (i := 87) rfl
theorem pd0 : parseMethodDescriptor "()[Lcom/example/grant/grant/providers/ClientAuthentication;" = some ⟨[], some (.array (.object "com/example/grant/grant/providers/ClientAuthentication"))⟩ := by decide +kernel
theorem pd1 : parseMethodDescriptor "(Ljava/lang/Object;)Z" = some ⟨[(.object "java/lang/Object")], some .boolean⟩ := by decide +kernel
theorem pd2 : parseMethodDescriptor "([CIILjava/lang/Void;)V" = some ⟨[(.array .char), .int, .int, (.object "java/lang/Void")], none⟩ := by decide +kernel
theorem pd3 : parseMethodDescriptor "(Ljava/lang/String;)Lcom/example/grant/grant/providers/ClientAuthentication;" = some ⟨[(.object "java/lang/String")], some (.object "com/example/grant/grant/providers/ClientAuthentication")⟩ := by decide +kernel
theorem pd4 : parseMethodDescriptor "()[C" = some ⟨[], some (.array .char)⟩ := by decide +kernel
theorem pd5 : parseMethodDescriptor "(C)[C" = some ⟨[.char], some (.array .char)⟩ := by decide +kernel
theorem pd6 : parseMethodDescriptor "(ICCC)[C" = some ⟨[.int, .char, .char, .char], some (.array .char)⟩ := by decide +kernel
theorem pd7 : parseMethodDescriptor "([C)V" = some ⟨[(.array .char)], none⟩ := by decide +kernel
theorem pn0 : plainFor (⟨"com/example/grant/grant/providers/ClientAuthentication", "values", "()[Lcom/example/grant/grant/providers/ClientAuthentication;"⟩ : MethodName) = true := by first | exact plainFor_of_name (by first | (simp [plainName, overriddenIn]; done) | decide +kernel) | decide +kernel
theorem pn1 : plainFor (⟨"java/lang/String", "equals", "(Ljava/lang/Object;)Z"⟩ : MethodName) = true := by first | exact plainFor_of_name (by first | (simp [plainName, overriddenIn]; done) | decide +kernel) | decide +kernel
theorem pn2 : plainFor (⟨"com/example/grant/grant/providers/ClientAuthentication", "named", "(Ljava/lang/String;)Lcom/example/grant/grant/providers/ClientAuthentication;"⟩ : MethodName) = true := by first | exact plainFor_of_name (by first | (simp [plainName, overriddenIn]; done) | decide +kernel) | decide +kernel
theorem pn3 : plainFor (⟨"java/lang/String", "<init>", "([CIILjava/lang/Void;)V"⟩ : MethodName) = true := by first | exact plainFor_of_name (by first | (simp [plainName, overriddenIn]; done) | decide +kernel) | decide +kernel
theorem pn4 : plainFor (⟨"java/lang/String", "<init>", "([C)V"⟩ : MethodName) = true := by first | exact plainFor_of_name (by first | (simp [plainName, overriddenIn]; done) | decide +kernel) | decide +kernel
theorem pn5 : plainFor (⟨"com/example/grant/grant/providers/ClientAuthenticationNamedPinLaw", "basicName", "()[C"⟩ : MethodName) = true := by first | exact plainFor_of_name (by first | (simp [plainName, overriddenIn]; done) | decide +kernel) | decide +kernel
theorem pn6 : plainFor (⟨"com/example/grant/grant/providers/ClientAuthenticationNamedPinLaw", "postName", "()[C"⟩ : MethodName) = true := by first | exact plainFor_of_name (by first | (simp [plainName, overriddenIn]; done) | decide +kernel) | decide +kernel
theorem pn7 : plainFor (⟨"com/example/grant/grant/providers/ClientAuthenticationNamedPinLaw", "basicPlus", "(C)[C"⟩ : MethodName) = true := by first | exact plainFor_of_name (by first | (simp [plainName, overriddenIn]; done) | decide +kernel) | decide +kernel
theorem pn8 : plainFor (⟨"com/example/grant/grant/providers/ClientAuthenticationNamedPinLaw", "postPlus", "(C)[C"⟩ : MethodName) = true := by first | exact plainFor_of_name (by first | (simp [plainName, overriddenIn]; done) | decide +kernel) | decide +kernel
theorem pn9 : plainFor (⟨"com/example/grant/grant/providers/ClientAuthenticationNamedPinLaw", "shortText", "(ICCC)[C"⟩ : MethodName) = true := by first | exact plainFor_of_name (by first | (simp [plainName, overriddenIn]; done) | decide +kernel) | decide +kernel
theorem pn10 : plainFor (⟨"com/example/grant/grant/providers/ClientAuthenticationNamedPinLaw", "law", "(IIII)Z"⟩ : MethodName) = true := by first | exact plainFor_of_name (by first | (simp [plainName, overriddenIn]; done) | decide +kernel) | decide +kernel
theorem i0_0 : Jvm.Own.Ins prog_12_method_1_code 0 (.getstatic 10) 3 3 := ⟨by decide +kernel, rfl⟩
theorem i0_3 : Jvm.Own.Ins prog_12_method_1_code 3 (.invokevirtual 14) 3 6 := ⟨by decide +kernel, rfl⟩
theorem i0_6 : Jvm.Own.Ins prog_12_method_1_code 6 (.checkcast 15) 3 9 := ⟨by decide +kernel, rfl⟩
theorem i0_9 : Jvm.Own.Ins prog_12_method_1_code 9 (.areturn) 1 10 := ⟨by decide +kernel, rfl⟩
theorem i1_0 : Jvm.Own.Ins jdk_42_method_66_code 0 (.aload_n 0) 1 1 := ⟨by decide +kernel, rfl⟩
theorem i1_1 : Jvm.Own.Ins jdk_42_method_66_code 1 (.aload_n 1) 1 2 := ⟨by decide +kernel, rfl⟩
theorem i1_2 : Jvm.Own.Ins jdk_42_method_66_code 2 (.if_acmp .ne 5) 3 5 := ⟨by decide +kernel, rfl⟩
theorem i1_7 : Jvm.Own.Ins jdk_42_method_66_code 7 (.aload_n 1) 1 8 := ⟨by decide +kernel, rfl⟩
theorem i1_8 : Jvm.Own.Ins jdk_42_method_66_code 8 (.instanceof 10) 3 11 := ⟨by decide +kernel, rfl⟩
theorem i1_11 : Jvm.Own.Ins jdk_42_method_66_code 11 (.ifCond .eq 43) 3 14 := ⟨by decide +kernel, rfl⟩
theorem i1_54 : Jvm.Own.Ins jdk_42_method_66_code 54 (.iconst 0) 1 55 := ⟨by decide +kernel, rfl⟩
theorem i1_55 : Jvm.Own.Ins jdk_42_method_66_code 55 (.ireturn) 1 56 := ⟨by decide +kernel, rfl⟩
theorem i2_0 : Jvm.Own.Ins prog_12_method_5_code 0 (.invokestatic 33) 3 3 := ⟨by decide +kernel, rfl⟩
theorem i2_3 : Jvm.Own.Ins prog_12_method_5_code 3 (.astore_n 1) 1 4 := ⟨by decide +kernel, rfl⟩
theorem i2_4 : Jvm.Own.Ins prog_12_method_5_code 4 (.aload_n 1) 1 5 := ⟨by decide +kernel, rfl⟩
theorem i2_5 : Jvm.Own.Ins prog_12_method_5_code 5 (.arraylength) 1 6 := ⟨by decide +kernel, rfl⟩
theorem i2_6 : Jvm.Own.Ins prog_12_method_5_code 6 (.istore_n 2) 1 7 := ⟨by decide +kernel, rfl⟩
theorem i2_7 : Jvm.Own.Ins prog_12_method_5_code 7 (.iconst 0) 1 8 := ⟨by decide +kernel, rfl⟩
theorem i2_8 : Jvm.Own.Ins prog_12_method_5_code 8 (.istore_n 3) 1 9 := ⟨by decide +kernel, rfl⟩
theorem i2_9 : Jvm.Own.Ins prog_12_method_5_code 9 (.iload_n 3) 1 10 := ⟨by decide +kernel, rfl⟩
theorem i2_10 : Jvm.Own.Ins prog_12_method_5_code 10 (.iload_n 2) 1 11 := ⟨by decide +kernel, rfl⟩
theorem i2_11 : Jvm.Own.Ins prog_12_method_5_code 11 (.if_icmp .ge 29) 3 14 := ⟨by decide +kernel, rfl⟩
theorem i2_14 : Jvm.Own.Ins prog_12_method_5_code 14 (.aload_n 1) 1 15 := ⟨by decide +kernel, rfl⟩
theorem i2_15 : Jvm.Own.Ins prog_12_method_5_code 15 (.iload_n 3) 1 16 := ⟨by decide +kernel, rfl⟩
theorem i2_16 : Jvm.Own.Ins prog_12_method_5_code 16 (.aaload) 1 17 := ⟨by decide +kernel, rfl⟩
theorem i2_17 : Jvm.Own.Ins prog_12_method_5_code 17 (.astore 4) 2 19 := ⟨by decide +kernel, rfl⟩
theorem i2_19 : Jvm.Own.Ins prog_12_method_5_code 19 (.aload 4) 2 21 := ⟨by decide +kernel, rfl⟩
theorem i2_21 : Jvm.Own.Ins prog_12_method_5_code 21 (.getfield 29) 3 24 := ⟨by decide +kernel, rfl⟩
theorem i2_24 : Jvm.Own.Ins prog_12_method_5_code 24 (.aload_n 0) 1 25 := ⟨by decide +kernel, rfl⟩
theorem i2_25 : Jvm.Own.Ins prog_12_method_5_code 25 (.invokevirtual 37) 3 28 := ⟨by decide +kernel, rfl⟩
theorem i2_28 : Jvm.Own.Ins prog_12_method_5_code 28 (.ifCond .eq 6) 3 31 := ⟨by decide +kernel, rfl⟩
theorem i2_31 : Jvm.Own.Ins prog_12_method_5_code 31 (.aload 4) 2 33 := ⟨by decide +kernel, rfl⟩
theorem i2_33 : Jvm.Own.Ins prog_12_method_5_code 33 (.areturn) 1 34 := ⟨by decide +kernel, rfl⟩
theorem i2_34 : Jvm.Own.Ins prog_12_method_5_code 34 (.iinc 3 1) 3 37 := ⟨by decide +kernel, rfl⟩
theorem i2_37 : Jvm.Own.Ins prog_12_method_5_code 37 (.goto (-28)) 3 40 := ⟨by decide +kernel, rfl⟩
theorem i2_40 : Jvm.Own.Ins prog_12_method_5_code 40 (.aconst_null) 1 41 := ⟨by decide +kernel, rfl⟩
theorem i2_41 : Jvm.Own.Ins prog_12_method_5_code 41 (.areturn) 1 42 := ⟨by decide +kernel, rfl⟩
theorem i3_0 : Jvm.Own.Ins jdk_42_method_149_code 0 (.aload_n 0) 1 1 := ⟨by decide +kernel, rfl⟩
theorem i3_1 : Jvm.Own.Ins jdk_42_method_149_code 1 (.invokespecial 1) 3 4 := ⟨by decide +kernel, rfl⟩
theorem i3_4 : Jvm.Own.Ins jdk_42_method_149_code 4 (.iload_n 3) 1 5 := ⟨by decide +kernel, rfl⟩
theorem i3_5 : Jvm.Own.Ins jdk_42_method_149_code 5 (.ifCond .ne 22) 3 8 := ⟨by decide +kernel, rfl⟩
theorem i3_8 : Jvm.Own.Ins jdk_42_method_149_code 8 (.aload_n 0) 1 9 := ⟨by decide +kernel, rfl⟩
theorem i3_9 : Jvm.Own.Ins jdk_42_method_149_code 9 (.ldc 7) 2 11 := ⟨by decide +kernel, rfl⟩
theorem i3_11 : Jvm.Own.Ins jdk_42_method_149_code 11 (.getfield 9) 3 14 := ⟨by decide +kernel, rfl⟩
theorem i3_14 : Jvm.Own.Ins jdk_42_method_149_code 14 (.putfield 9) 3 17 := ⟨by decide +kernel, rfl⟩
theorem i3_17 : Jvm.Own.Ins jdk_42_method_149_code 17 (.aload_n 0) 1 18 := ⟨by decide +kernel, rfl⟩
theorem i3_18 : Jvm.Own.Ins jdk_42_method_149_code 18 (.ldc 7) 2 20 := ⟨by decide +kernel, rfl⟩
theorem i3_20 : Jvm.Own.Ins jdk_42_method_149_code 20 (.getfield 15) 3 23 := ⟨by decide +kernel, rfl⟩
theorem i3_23 : Jvm.Own.Ins jdk_42_method_149_code 23 (.putfield 15) 3 26 := ⟨by decide +kernel, rfl⟩
theorem i3_26 : Jvm.Own.Ins jdk_42_method_149_code 26 (.return_) 1 27 := ⟨by decide +kernel, rfl⟩
theorem i4_0 : Jvm.Own.Ins jdk_42_method_3_code 0 (.aload_n 0) 1 1 := ⟨by decide +kernel, rfl⟩
theorem i4_1 : Jvm.Own.Ins jdk_42_method_3_code 1 (.aload_n 1) 1 2 := ⟨by decide +kernel, rfl⟩
theorem i4_2 : Jvm.Own.Ins jdk_42_method_3_code 2 (.iconst 0) 1 3 := ⟨by decide +kernel, rfl⟩
theorem i4_3 : Jvm.Own.Ins jdk_42_method_3_code 3 (.aload_n 1) 1 4 := ⟨by decide +kernel, rfl⟩
theorem i4_4 : Jvm.Own.Ins jdk_42_method_3_code 4 (.arraylength) 1 5 := ⟨by decide +kernel, rfl⟩
theorem i4_5 : Jvm.Own.Ins jdk_42_method_3_code 5 (.aconst_null) 1 6 := ⟨by decide +kernel, rfl⟩
theorem i4_6 : Jvm.Own.Ins jdk_42_method_3_code 6 (.invokespecial 27) 3 9 := ⟨by decide +kernel, rfl⟩
theorem i4_9 : Jvm.Own.Ins jdk_42_method_3_code 9 (.return_) 1 10 := ⟨by decide +kernel, rfl⟩
theorem i5_0 : Jvm.Own.Ins method_2_code 0 (.bipush 19) 2 2 := ⟨by decide +kernel, rfl⟩
theorem i5_2 : Jvm.Own.Ins method_2_code 2 (.newarray .char) 2 4 := ⟨by decide +kernel, rfl⟩
theorem i5_4 : Jvm.Own.Ins method_2_code 4 (.dup) 1 5 := ⟨by decide +kernel, rfl⟩
theorem i5_5 : Jvm.Own.Ins method_2_code 5 (.iconst 0) 1 6 := ⟨by decide +kernel, rfl⟩
theorem i5_6 : Jvm.Own.Ins method_2_code 6 (.bipush 99) 2 8 := ⟨by decide +kernel, rfl⟩
theorem i5_8 : Jvm.Own.Ins method_2_code 8 (.castore) 1 9 := ⟨by decide +kernel, rfl⟩
theorem i5_9 : Jvm.Own.Ins method_2_code 9 (.dup) 1 10 := ⟨by decide +kernel, rfl⟩
theorem i5_10 : Jvm.Own.Ins method_2_code 10 (.iconst 1) 1 11 := ⟨by decide +kernel, rfl⟩
theorem i5_11 : Jvm.Own.Ins method_2_code 11 (.bipush 108) 2 13 := ⟨by decide +kernel, rfl⟩
theorem i5_13 : Jvm.Own.Ins method_2_code 13 (.castore) 1 14 := ⟨by decide +kernel, rfl⟩
theorem i5_14 : Jvm.Own.Ins method_2_code 14 (.dup) 1 15 := ⟨by decide +kernel, rfl⟩
theorem i5_15 : Jvm.Own.Ins method_2_code 15 (.iconst 2) 1 16 := ⟨by decide +kernel, rfl⟩
theorem i5_16 : Jvm.Own.Ins method_2_code 16 (.bipush 105) 2 18 := ⟨by decide +kernel, rfl⟩
theorem i5_18 : Jvm.Own.Ins method_2_code 18 (.castore) 1 19 := ⟨by decide +kernel, rfl⟩
theorem i5_19 : Jvm.Own.Ins method_2_code 19 (.dup) 1 20 := ⟨by decide +kernel, rfl⟩
theorem i5_20 : Jvm.Own.Ins method_2_code 20 (.iconst 3) 1 21 := ⟨by decide +kernel, rfl⟩
theorem i5_21 : Jvm.Own.Ins method_2_code 21 (.bipush 101) 2 23 := ⟨by decide +kernel, rfl⟩
theorem i5_23 : Jvm.Own.Ins method_2_code 23 (.castore) 1 24 := ⟨by decide +kernel, rfl⟩
theorem i5_24 : Jvm.Own.Ins method_2_code 24 (.dup) 1 25 := ⟨by decide +kernel, rfl⟩
theorem i5_25 : Jvm.Own.Ins method_2_code 25 (.iconst 4) 1 26 := ⟨by decide +kernel, rfl⟩
theorem i5_26 : Jvm.Own.Ins method_2_code 26 (.bipush 110) 2 28 := ⟨by decide +kernel, rfl⟩
theorem i5_28 : Jvm.Own.Ins method_2_code 28 (.castore) 1 29 := ⟨by decide +kernel, rfl⟩
theorem i5_29 : Jvm.Own.Ins method_2_code 29 (.dup) 1 30 := ⟨by decide +kernel, rfl⟩
theorem i5_30 : Jvm.Own.Ins method_2_code 30 (.iconst 5) 1 31 := ⟨by decide +kernel, rfl⟩
theorem i5_31 : Jvm.Own.Ins method_2_code 31 (.bipush 116) 2 33 := ⟨by decide +kernel, rfl⟩
theorem i5_33 : Jvm.Own.Ins method_2_code 33 (.castore) 1 34 := ⟨by decide +kernel, rfl⟩
theorem i5_34 : Jvm.Own.Ins method_2_code 34 (.dup) 1 35 := ⟨by decide +kernel, rfl⟩
theorem i5_35 : Jvm.Own.Ins method_2_code 35 (.bipush 6) 2 37 := ⟨by decide +kernel, rfl⟩
theorem i5_37 : Jvm.Own.Ins method_2_code 37 (.bipush 95) 2 39 := ⟨by decide +kernel, rfl⟩
theorem i5_39 : Jvm.Own.Ins method_2_code 39 (.castore) 1 40 := ⟨by decide +kernel, rfl⟩
theorem i5_40 : Jvm.Own.Ins method_2_code 40 (.dup) 1 41 := ⟨by decide +kernel, rfl⟩
theorem i5_41 : Jvm.Own.Ins method_2_code 41 (.bipush 7) 2 43 := ⟨by decide +kernel, rfl⟩
theorem i5_43 : Jvm.Own.Ins method_2_code 43 (.bipush 115) 2 45 := ⟨by decide +kernel, rfl⟩
theorem i5_45 : Jvm.Own.Ins method_2_code 45 (.castore) 1 46 := ⟨by decide +kernel, rfl⟩
theorem i5_46 : Jvm.Own.Ins method_2_code 46 (.dup) 1 47 := ⟨by decide +kernel, rfl⟩
theorem i5_47 : Jvm.Own.Ins method_2_code 47 (.bipush 8) 2 49 := ⟨by decide +kernel, rfl⟩
theorem i5_49 : Jvm.Own.Ins method_2_code 49 (.bipush 101) 2 51 := ⟨by decide +kernel, rfl⟩
theorem i5_51 : Jvm.Own.Ins method_2_code 51 (.castore) 1 52 := ⟨by decide +kernel, rfl⟩
theorem i5_52 : Jvm.Own.Ins method_2_code 52 (.dup) 1 53 := ⟨by decide +kernel, rfl⟩
theorem i5_53 : Jvm.Own.Ins method_2_code 53 (.bipush 9) 2 55 := ⟨by decide +kernel, rfl⟩
theorem i5_55 : Jvm.Own.Ins method_2_code 55 (.bipush 99) 2 57 := ⟨by decide +kernel, rfl⟩
theorem i5_57 : Jvm.Own.Ins method_2_code 57 (.castore) 1 58 := ⟨by decide +kernel, rfl⟩
theorem i5_58 : Jvm.Own.Ins method_2_code 58 (.dup) 1 59 := ⟨by decide +kernel, rfl⟩
theorem i5_59 : Jvm.Own.Ins method_2_code 59 (.bipush 10) 2 61 := ⟨by decide +kernel, rfl⟩
theorem i5_61 : Jvm.Own.Ins method_2_code 61 (.bipush 114) 2 63 := ⟨by decide +kernel, rfl⟩
theorem i5_63 : Jvm.Own.Ins method_2_code 63 (.castore) 1 64 := ⟨by decide +kernel, rfl⟩
theorem i5_64 : Jvm.Own.Ins method_2_code 64 (.dup) 1 65 := ⟨by decide +kernel, rfl⟩
theorem i5_65 : Jvm.Own.Ins method_2_code 65 (.bipush 11) 2 67 := ⟨by decide +kernel, rfl⟩
theorem i5_67 : Jvm.Own.Ins method_2_code 67 (.bipush 101) 2 69 := ⟨by decide +kernel, rfl⟩
theorem i5_69 : Jvm.Own.Ins method_2_code 69 (.castore) 1 70 := ⟨by decide +kernel, rfl⟩
theorem i5_70 : Jvm.Own.Ins method_2_code 70 (.dup) 1 71 := ⟨by decide +kernel, rfl⟩
theorem i5_71 : Jvm.Own.Ins method_2_code 71 (.bipush 12) 2 73 := ⟨by decide +kernel, rfl⟩
theorem i5_73 : Jvm.Own.Ins method_2_code 73 (.bipush 116) 2 75 := ⟨by decide +kernel, rfl⟩
theorem i5_75 : Jvm.Own.Ins method_2_code 75 (.castore) 1 76 := ⟨by decide +kernel, rfl⟩
theorem i5_76 : Jvm.Own.Ins method_2_code 76 (.dup) 1 77 := ⟨by decide +kernel, rfl⟩
theorem i5_77 : Jvm.Own.Ins method_2_code 77 (.bipush 13) 2 79 := ⟨by decide +kernel, rfl⟩
theorem i5_79 : Jvm.Own.Ins method_2_code 79 (.bipush 95) 2 81 := ⟨by decide +kernel, rfl⟩
theorem i5_81 : Jvm.Own.Ins method_2_code 81 (.castore) 1 82 := ⟨by decide +kernel, rfl⟩
theorem i5_82 : Jvm.Own.Ins method_2_code 82 (.dup) 1 83 := ⟨by decide +kernel, rfl⟩
theorem i5_83 : Jvm.Own.Ins method_2_code 83 (.bipush 14) 2 85 := ⟨by decide +kernel, rfl⟩
theorem i5_85 : Jvm.Own.Ins method_2_code 85 (.bipush 98) 2 87 := ⟨by decide +kernel, rfl⟩
theorem i5_87 : Jvm.Own.Ins method_2_code 87 (.castore) 1 88 := ⟨by decide +kernel, rfl⟩
theorem i5_88 : Jvm.Own.Ins method_2_code 88 (.dup) 1 89 := ⟨by decide +kernel, rfl⟩
theorem i5_89 : Jvm.Own.Ins method_2_code 89 (.bipush 15) 2 91 := ⟨by decide +kernel, rfl⟩
theorem i5_91 : Jvm.Own.Ins method_2_code 91 (.bipush 97) 2 93 := ⟨by decide +kernel, rfl⟩
theorem i5_93 : Jvm.Own.Ins method_2_code 93 (.castore) 1 94 := ⟨by decide +kernel, rfl⟩
theorem i5_94 : Jvm.Own.Ins method_2_code 94 (.dup) 1 95 := ⟨by decide +kernel, rfl⟩
theorem i5_95 : Jvm.Own.Ins method_2_code 95 (.bipush 16) 2 97 := ⟨by decide +kernel, rfl⟩
theorem i5_97 : Jvm.Own.Ins method_2_code 97 (.bipush 115) 2 99 := ⟨by decide +kernel, rfl⟩
theorem i5_99 : Jvm.Own.Ins method_2_code 99 (.castore) 1 100 := ⟨by decide +kernel, rfl⟩
theorem i5_100 : Jvm.Own.Ins method_2_code 100 (.dup) 1 101 := ⟨by decide +kernel, rfl⟩
theorem i5_101 : Jvm.Own.Ins method_2_code 101 (.bipush 17) 2 103 := ⟨by decide +kernel, rfl⟩
theorem i5_103 : Jvm.Own.Ins method_2_code 103 (.bipush 105) 2 105 := ⟨by decide +kernel, rfl⟩
theorem i5_105 : Jvm.Own.Ins method_2_code 105 (.castore) 1 106 := ⟨by decide +kernel, rfl⟩
theorem i5_106 : Jvm.Own.Ins method_2_code 106 (.dup) 1 107 := ⟨by decide +kernel, rfl⟩
theorem i5_107 : Jvm.Own.Ins method_2_code 107 (.bipush 18) 2 109 := ⟨by decide +kernel, rfl⟩
theorem i5_109 : Jvm.Own.Ins method_2_code 109 (.bipush 99) 2 111 := ⟨by decide +kernel, rfl⟩
theorem i5_111 : Jvm.Own.Ins method_2_code 111 (.castore) 1 112 := ⟨by decide +kernel, rfl⟩
theorem i5_112 : Jvm.Own.Ins method_2_code 112 (.areturn) 1 113 := ⟨by decide +kernel, rfl⟩
theorem i6_0 : Jvm.Own.Ins method_3_code 0 (.bipush 18) 2 2 := ⟨by decide +kernel, rfl⟩
theorem i6_2 : Jvm.Own.Ins method_3_code 2 (.newarray .char) 2 4 := ⟨by decide +kernel, rfl⟩
theorem i6_4 : Jvm.Own.Ins method_3_code 4 (.dup) 1 5 := ⟨by decide +kernel, rfl⟩
theorem i6_5 : Jvm.Own.Ins method_3_code 5 (.iconst 0) 1 6 := ⟨by decide +kernel, rfl⟩
theorem i6_6 : Jvm.Own.Ins method_3_code 6 (.bipush 99) 2 8 := ⟨by decide +kernel, rfl⟩
theorem i6_8 : Jvm.Own.Ins method_3_code 8 (.castore) 1 9 := ⟨by decide +kernel, rfl⟩
theorem i6_9 : Jvm.Own.Ins method_3_code 9 (.dup) 1 10 := ⟨by decide +kernel, rfl⟩
theorem i6_10 : Jvm.Own.Ins method_3_code 10 (.iconst 1) 1 11 := ⟨by decide +kernel, rfl⟩
theorem i6_11 : Jvm.Own.Ins method_3_code 11 (.bipush 108) 2 13 := ⟨by decide +kernel, rfl⟩
theorem i6_13 : Jvm.Own.Ins method_3_code 13 (.castore) 1 14 := ⟨by decide +kernel, rfl⟩
theorem i6_14 : Jvm.Own.Ins method_3_code 14 (.dup) 1 15 := ⟨by decide +kernel, rfl⟩
theorem i6_15 : Jvm.Own.Ins method_3_code 15 (.iconst 2) 1 16 := ⟨by decide +kernel, rfl⟩
theorem i6_16 : Jvm.Own.Ins method_3_code 16 (.bipush 105) 2 18 := ⟨by decide +kernel, rfl⟩
theorem i6_18 : Jvm.Own.Ins method_3_code 18 (.castore) 1 19 := ⟨by decide +kernel, rfl⟩
theorem i6_19 : Jvm.Own.Ins method_3_code 19 (.dup) 1 20 := ⟨by decide +kernel, rfl⟩
theorem i6_20 : Jvm.Own.Ins method_3_code 20 (.iconst 3) 1 21 := ⟨by decide +kernel, rfl⟩
theorem i6_21 : Jvm.Own.Ins method_3_code 21 (.bipush 101) 2 23 := ⟨by decide +kernel, rfl⟩
theorem i6_23 : Jvm.Own.Ins method_3_code 23 (.castore) 1 24 := ⟨by decide +kernel, rfl⟩
theorem i6_24 : Jvm.Own.Ins method_3_code 24 (.dup) 1 25 := ⟨by decide +kernel, rfl⟩
theorem i6_25 : Jvm.Own.Ins method_3_code 25 (.iconst 4) 1 26 := ⟨by decide +kernel, rfl⟩
theorem i6_26 : Jvm.Own.Ins method_3_code 26 (.bipush 110) 2 28 := ⟨by decide +kernel, rfl⟩
theorem i6_28 : Jvm.Own.Ins method_3_code 28 (.castore) 1 29 := ⟨by decide +kernel, rfl⟩
theorem i6_29 : Jvm.Own.Ins method_3_code 29 (.dup) 1 30 := ⟨by decide +kernel, rfl⟩
theorem i6_30 : Jvm.Own.Ins method_3_code 30 (.iconst 5) 1 31 := ⟨by decide +kernel, rfl⟩
theorem i6_31 : Jvm.Own.Ins method_3_code 31 (.bipush 116) 2 33 := ⟨by decide +kernel, rfl⟩
theorem i6_33 : Jvm.Own.Ins method_3_code 33 (.castore) 1 34 := ⟨by decide +kernel, rfl⟩
theorem i6_34 : Jvm.Own.Ins method_3_code 34 (.dup) 1 35 := ⟨by decide +kernel, rfl⟩
theorem i6_35 : Jvm.Own.Ins method_3_code 35 (.bipush 6) 2 37 := ⟨by decide +kernel, rfl⟩
theorem i6_37 : Jvm.Own.Ins method_3_code 37 (.bipush 95) 2 39 := ⟨by decide +kernel, rfl⟩
theorem i6_39 : Jvm.Own.Ins method_3_code 39 (.castore) 1 40 := ⟨by decide +kernel, rfl⟩
theorem i6_40 : Jvm.Own.Ins method_3_code 40 (.dup) 1 41 := ⟨by decide +kernel, rfl⟩
theorem i6_41 : Jvm.Own.Ins method_3_code 41 (.bipush 7) 2 43 := ⟨by decide +kernel, rfl⟩
theorem i6_43 : Jvm.Own.Ins method_3_code 43 (.bipush 115) 2 45 := ⟨by decide +kernel, rfl⟩
theorem i6_45 : Jvm.Own.Ins method_3_code 45 (.castore) 1 46 := ⟨by decide +kernel, rfl⟩
theorem i6_46 : Jvm.Own.Ins method_3_code 46 (.dup) 1 47 := ⟨by decide +kernel, rfl⟩
theorem i6_47 : Jvm.Own.Ins method_3_code 47 (.bipush 8) 2 49 := ⟨by decide +kernel, rfl⟩
theorem i6_49 : Jvm.Own.Ins method_3_code 49 (.bipush 101) 2 51 := ⟨by decide +kernel, rfl⟩
theorem i6_51 : Jvm.Own.Ins method_3_code 51 (.castore) 1 52 := ⟨by decide +kernel, rfl⟩
theorem i6_52 : Jvm.Own.Ins method_3_code 52 (.dup) 1 53 := ⟨by decide +kernel, rfl⟩
theorem i6_53 : Jvm.Own.Ins method_3_code 53 (.bipush 9) 2 55 := ⟨by decide +kernel, rfl⟩
theorem i6_55 : Jvm.Own.Ins method_3_code 55 (.bipush 99) 2 57 := ⟨by decide +kernel, rfl⟩
theorem i6_57 : Jvm.Own.Ins method_3_code 57 (.castore) 1 58 := ⟨by decide +kernel, rfl⟩
theorem i6_58 : Jvm.Own.Ins method_3_code 58 (.dup) 1 59 := ⟨by decide +kernel, rfl⟩
theorem i6_59 : Jvm.Own.Ins method_3_code 59 (.bipush 10) 2 61 := ⟨by decide +kernel, rfl⟩
theorem i6_61 : Jvm.Own.Ins method_3_code 61 (.bipush 114) 2 63 := ⟨by decide +kernel, rfl⟩
theorem i6_63 : Jvm.Own.Ins method_3_code 63 (.castore) 1 64 := ⟨by decide +kernel, rfl⟩
theorem i6_64 : Jvm.Own.Ins method_3_code 64 (.dup) 1 65 := ⟨by decide +kernel, rfl⟩
theorem i6_65 : Jvm.Own.Ins method_3_code 65 (.bipush 11) 2 67 := ⟨by decide +kernel, rfl⟩
theorem i6_67 : Jvm.Own.Ins method_3_code 67 (.bipush 101) 2 69 := ⟨by decide +kernel, rfl⟩
theorem i6_69 : Jvm.Own.Ins method_3_code 69 (.castore) 1 70 := ⟨by decide +kernel, rfl⟩
theorem i6_70 : Jvm.Own.Ins method_3_code 70 (.dup) 1 71 := ⟨by decide +kernel, rfl⟩
theorem i6_71 : Jvm.Own.Ins method_3_code 71 (.bipush 12) 2 73 := ⟨by decide +kernel, rfl⟩
theorem i6_73 : Jvm.Own.Ins method_3_code 73 (.bipush 116) 2 75 := ⟨by decide +kernel, rfl⟩
theorem i6_75 : Jvm.Own.Ins method_3_code 75 (.castore) 1 76 := ⟨by decide +kernel, rfl⟩
theorem i6_76 : Jvm.Own.Ins method_3_code 76 (.dup) 1 77 := ⟨by decide +kernel, rfl⟩
theorem i6_77 : Jvm.Own.Ins method_3_code 77 (.bipush 13) 2 79 := ⟨by decide +kernel, rfl⟩
theorem i6_79 : Jvm.Own.Ins method_3_code 79 (.bipush 95) 2 81 := ⟨by decide +kernel, rfl⟩
theorem i6_81 : Jvm.Own.Ins method_3_code 81 (.castore) 1 82 := ⟨by decide +kernel, rfl⟩
theorem i6_82 : Jvm.Own.Ins method_3_code 82 (.dup) 1 83 := ⟨by decide +kernel, rfl⟩
theorem i6_83 : Jvm.Own.Ins method_3_code 83 (.bipush 14) 2 85 := ⟨by decide +kernel, rfl⟩
theorem i6_85 : Jvm.Own.Ins method_3_code 85 (.bipush 112) 2 87 := ⟨by decide +kernel, rfl⟩
theorem i6_87 : Jvm.Own.Ins method_3_code 87 (.castore) 1 88 := ⟨by decide +kernel, rfl⟩
theorem i6_88 : Jvm.Own.Ins method_3_code 88 (.dup) 1 89 := ⟨by decide +kernel, rfl⟩
theorem i6_89 : Jvm.Own.Ins method_3_code 89 (.bipush 15) 2 91 := ⟨by decide +kernel, rfl⟩
theorem i6_91 : Jvm.Own.Ins method_3_code 91 (.bipush 111) 2 93 := ⟨by decide +kernel, rfl⟩
theorem i6_93 : Jvm.Own.Ins method_3_code 93 (.castore) 1 94 := ⟨by decide +kernel, rfl⟩
theorem i6_94 : Jvm.Own.Ins method_3_code 94 (.dup) 1 95 := ⟨by decide +kernel, rfl⟩
theorem i6_95 : Jvm.Own.Ins method_3_code 95 (.bipush 16) 2 97 := ⟨by decide +kernel, rfl⟩
theorem i6_97 : Jvm.Own.Ins method_3_code 97 (.bipush 115) 2 99 := ⟨by decide +kernel, rfl⟩
theorem i6_99 : Jvm.Own.Ins method_3_code 99 (.castore) 1 100 := ⟨by decide +kernel, rfl⟩
theorem i6_100 : Jvm.Own.Ins method_3_code 100 (.dup) 1 101 := ⟨by decide +kernel, rfl⟩
theorem i6_101 : Jvm.Own.Ins method_3_code 101 (.bipush 17) 2 103 := ⟨by decide +kernel, rfl⟩
theorem i6_103 : Jvm.Own.Ins method_3_code 103 (.bipush 116) 2 105 := ⟨by decide +kernel, rfl⟩
theorem i6_105 : Jvm.Own.Ins method_3_code 105 (.castore) 1 106 := ⟨by decide +kernel, rfl⟩
theorem i6_106 : Jvm.Own.Ins method_3_code 106 (.areturn) 1 107 := ⟨by decide +kernel, rfl⟩
theorem i7_0 : Jvm.Own.Ins method_4_code 0 (.bipush 20) 2 2 := ⟨by decide +kernel, rfl⟩
theorem i7_2 : Jvm.Own.Ins method_4_code 2 (.newarray .char) 2 4 := ⟨by decide +kernel, rfl⟩
theorem i7_4 : Jvm.Own.Ins method_4_code 4 (.dup) 1 5 := ⟨by decide +kernel, rfl⟩
theorem i7_5 : Jvm.Own.Ins method_4_code 5 (.iconst 0) 1 6 := ⟨by decide +kernel, rfl⟩
theorem i7_6 : Jvm.Own.Ins method_4_code 6 (.bipush 99) 2 8 := ⟨by decide +kernel, rfl⟩
theorem i7_8 : Jvm.Own.Ins method_4_code 8 (.castore) 1 9 := ⟨by decide +kernel, rfl⟩
theorem i7_9 : Jvm.Own.Ins method_4_code 9 (.dup) 1 10 := ⟨by decide +kernel, rfl⟩
theorem i7_10 : Jvm.Own.Ins method_4_code 10 (.iconst 1) 1 11 := ⟨by decide +kernel, rfl⟩
theorem i7_11 : Jvm.Own.Ins method_4_code 11 (.bipush 108) 2 13 := ⟨by decide +kernel, rfl⟩
theorem i7_13 : Jvm.Own.Ins method_4_code 13 (.castore) 1 14 := ⟨by decide +kernel, rfl⟩
theorem i7_14 : Jvm.Own.Ins method_4_code 14 (.dup) 1 15 := ⟨by decide +kernel, rfl⟩
theorem i7_15 : Jvm.Own.Ins method_4_code 15 (.iconst 2) 1 16 := ⟨by decide +kernel, rfl⟩
theorem i7_16 : Jvm.Own.Ins method_4_code 16 (.bipush 105) 2 18 := ⟨by decide +kernel, rfl⟩
theorem i7_18 : Jvm.Own.Ins method_4_code 18 (.castore) 1 19 := ⟨by decide +kernel, rfl⟩
theorem i7_19 : Jvm.Own.Ins method_4_code 19 (.dup) 1 20 := ⟨by decide +kernel, rfl⟩
theorem i7_20 : Jvm.Own.Ins method_4_code 20 (.iconst 3) 1 21 := ⟨by decide +kernel, rfl⟩
theorem i7_21 : Jvm.Own.Ins method_4_code 21 (.bipush 101) 2 23 := ⟨by decide +kernel, rfl⟩
theorem i7_23 : Jvm.Own.Ins method_4_code 23 (.castore) 1 24 := ⟨by decide +kernel, rfl⟩
theorem i7_24 : Jvm.Own.Ins method_4_code 24 (.dup) 1 25 := ⟨by decide +kernel, rfl⟩
theorem i7_25 : Jvm.Own.Ins method_4_code 25 (.iconst 4) 1 26 := ⟨by decide +kernel, rfl⟩
theorem i7_26 : Jvm.Own.Ins method_4_code 26 (.bipush 110) 2 28 := ⟨by decide +kernel, rfl⟩
theorem i7_28 : Jvm.Own.Ins method_4_code 28 (.castore) 1 29 := ⟨by decide +kernel, rfl⟩
theorem i7_29 : Jvm.Own.Ins method_4_code 29 (.dup) 1 30 := ⟨by decide +kernel, rfl⟩
theorem i7_30 : Jvm.Own.Ins method_4_code 30 (.iconst 5) 1 31 := ⟨by decide +kernel, rfl⟩
theorem i7_31 : Jvm.Own.Ins method_4_code 31 (.bipush 116) 2 33 := ⟨by decide +kernel, rfl⟩
theorem i7_33 : Jvm.Own.Ins method_4_code 33 (.castore) 1 34 := ⟨by decide +kernel, rfl⟩
theorem i7_34 : Jvm.Own.Ins method_4_code 34 (.dup) 1 35 := ⟨by decide +kernel, rfl⟩
theorem i7_35 : Jvm.Own.Ins method_4_code 35 (.bipush 6) 2 37 := ⟨by decide +kernel, rfl⟩
theorem i7_37 : Jvm.Own.Ins method_4_code 37 (.bipush 95) 2 39 := ⟨by decide +kernel, rfl⟩
theorem i7_39 : Jvm.Own.Ins method_4_code 39 (.castore) 1 40 := ⟨by decide +kernel, rfl⟩
theorem i7_40 : Jvm.Own.Ins method_4_code 40 (.dup) 1 41 := ⟨by decide +kernel, rfl⟩
theorem i7_41 : Jvm.Own.Ins method_4_code 41 (.bipush 7) 2 43 := ⟨by decide +kernel, rfl⟩
theorem i7_43 : Jvm.Own.Ins method_4_code 43 (.bipush 115) 2 45 := ⟨by decide +kernel, rfl⟩
theorem i7_45 : Jvm.Own.Ins method_4_code 45 (.castore) 1 46 := ⟨by decide +kernel, rfl⟩
theorem i7_46 : Jvm.Own.Ins method_4_code 46 (.dup) 1 47 := ⟨by decide +kernel, rfl⟩
theorem i7_47 : Jvm.Own.Ins method_4_code 47 (.bipush 8) 2 49 := ⟨by decide +kernel, rfl⟩
theorem i7_49 : Jvm.Own.Ins method_4_code 49 (.bipush 101) 2 51 := ⟨by decide +kernel, rfl⟩
theorem i7_51 : Jvm.Own.Ins method_4_code 51 (.castore) 1 52 := ⟨by decide +kernel, rfl⟩
theorem i7_52 : Jvm.Own.Ins method_4_code 52 (.dup) 1 53 := ⟨by decide +kernel, rfl⟩
theorem i7_53 : Jvm.Own.Ins method_4_code 53 (.bipush 9) 2 55 := ⟨by decide +kernel, rfl⟩
theorem i7_55 : Jvm.Own.Ins method_4_code 55 (.bipush 99) 2 57 := ⟨by decide +kernel, rfl⟩
theorem i7_57 : Jvm.Own.Ins method_4_code 57 (.castore) 1 58 := ⟨by decide +kernel, rfl⟩
theorem i7_58 : Jvm.Own.Ins method_4_code 58 (.dup) 1 59 := ⟨by decide +kernel, rfl⟩
theorem i7_59 : Jvm.Own.Ins method_4_code 59 (.bipush 10) 2 61 := ⟨by decide +kernel, rfl⟩
theorem i7_61 : Jvm.Own.Ins method_4_code 61 (.bipush 114) 2 63 := ⟨by decide +kernel, rfl⟩
theorem i7_63 : Jvm.Own.Ins method_4_code 63 (.castore) 1 64 := ⟨by decide +kernel, rfl⟩
theorem i7_64 : Jvm.Own.Ins method_4_code 64 (.dup) 1 65 := ⟨by decide +kernel, rfl⟩
theorem i7_65 : Jvm.Own.Ins method_4_code 65 (.bipush 11) 2 67 := ⟨by decide +kernel, rfl⟩
theorem i7_67 : Jvm.Own.Ins method_4_code 67 (.bipush 101) 2 69 := ⟨by decide +kernel, rfl⟩
theorem i7_69 : Jvm.Own.Ins method_4_code 69 (.castore) 1 70 := ⟨by decide +kernel, rfl⟩
theorem i7_70 : Jvm.Own.Ins method_4_code 70 (.dup) 1 71 := ⟨by decide +kernel, rfl⟩
theorem i7_71 : Jvm.Own.Ins method_4_code 71 (.bipush 12) 2 73 := ⟨by decide +kernel, rfl⟩
theorem i7_73 : Jvm.Own.Ins method_4_code 73 (.bipush 116) 2 75 := ⟨by decide +kernel, rfl⟩
theorem i7_75 : Jvm.Own.Ins method_4_code 75 (.castore) 1 76 := ⟨by decide +kernel, rfl⟩
theorem i7_76 : Jvm.Own.Ins method_4_code 76 (.dup) 1 77 := ⟨by decide +kernel, rfl⟩
theorem i7_77 : Jvm.Own.Ins method_4_code 77 (.bipush 13) 2 79 := ⟨by decide +kernel, rfl⟩
theorem i7_79 : Jvm.Own.Ins method_4_code 79 (.bipush 95) 2 81 := ⟨by decide +kernel, rfl⟩
theorem i7_81 : Jvm.Own.Ins method_4_code 81 (.castore) 1 82 := ⟨by decide +kernel, rfl⟩
theorem i7_82 : Jvm.Own.Ins method_4_code 82 (.dup) 1 83 := ⟨by decide +kernel, rfl⟩
theorem i7_83 : Jvm.Own.Ins method_4_code 83 (.bipush 14) 2 85 := ⟨by decide +kernel, rfl⟩
theorem i7_85 : Jvm.Own.Ins method_4_code 85 (.bipush 98) 2 87 := ⟨by decide +kernel, rfl⟩
theorem i7_87 : Jvm.Own.Ins method_4_code 87 (.castore) 1 88 := ⟨by decide +kernel, rfl⟩
theorem i7_88 : Jvm.Own.Ins method_4_code 88 (.dup) 1 89 := ⟨by decide +kernel, rfl⟩
theorem i7_89 : Jvm.Own.Ins method_4_code 89 (.bipush 15) 2 91 := ⟨by decide +kernel, rfl⟩
theorem i7_91 : Jvm.Own.Ins method_4_code 91 (.bipush 97) 2 93 := ⟨by decide +kernel, rfl⟩
theorem i7_93 : Jvm.Own.Ins method_4_code 93 (.castore) 1 94 := ⟨by decide +kernel, rfl⟩
theorem i7_94 : Jvm.Own.Ins method_4_code 94 (.dup) 1 95 := ⟨by decide +kernel, rfl⟩
theorem i7_95 : Jvm.Own.Ins method_4_code 95 (.bipush 16) 2 97 := ⟨by decide +kernel, rfl⟩
theorem i7_97 : Jvm.Own.Ins method_4_code 97 (.bipush 115) 2 99 := ⟨by decide +kernel, rfl⟩
theorem i7_99 : Jvm.Own.Ins method_4_code 99 (.castore) 1 100 := ⟨by decide +kernel, rfl⟩
theorem i7_100 : Jvm.Own.Ins method_4_code 100 (.dup) 1 101 := ⟨by decide +kernel, rfl⟩
theorem i7_101 : Jvm.Own.Ins method_4_code 101 (.bipush 17) 2 103 := ⟨by decide +kernel, rfl⟩
theorem i7_103 : Jvm.Own.Ins method_4_code 103 (.bipush 105) 2 105 := ⟨by decide +kernel, rfl⟩
theorem i7_105 : Jvm.Own.Ins method_4_code 105 (.castore) 1 106 := ⟨by decide +kernel, rfl⟩
theorem i7_106 : Jvm.Own.Ins method_4_code 106 (.dup) 1 107 := ⟨by decide +kernel, rfl⟩
theorem i7_107 : Jvm.Own.Ins method_4_code 107 (.bipush 18) 2 109 := ⟨by decide +kernel, rfl⟩
theorem i7_109 : Jvm.Own.Ins method_4_code 109 (.bipush 99) 2 111 := ⟨by decide +kernel, rfl⟩
theorem i7_111 : Jvm.Own.Ins method_4_code 111 (.castore) 1 112 := ⟨by decide +kernel, rfl⟩
theorem i7_112 : Jvm.Own.Ins method_4_code 112 (.dup) 1 113 := ⟨by decide +kernel, rfl⟩
theorem i7_113 : Jvm.Own.Ins method_4_code 113 (.bipush 19) 2 115 := ⟨by decide +kernel, rfl⟩
theorem i7_115 : Jvm.Own.Ins method_4_code 115 (.iload_n 0) 1 116 := ⟨by decide +kernel, rfl⟩
theorem i7_116 : Jvm.Own.Ins method_4_code 116 (.castore) 1 117 := ⟨by decide +kernel, rfl⟩
theorem i7_117 : Jvm.Own.Ins method_4_code 117 (.areturn) 1 118 := ⟨by decide +kernel, rfl⟩
theorem i8_0 : Jvm.Own.Ins method_5_code 0 (.bipush 19) 2 2 := ⟨by decide +kernel, rfl⟩
theorem i8_2 : Jvm.Own.Ins method_5_code 2 (.newarray .char) 2 4 := ⟨by decide +kernel, rfl⟩
theorem i8_4 : Jvm.Own.Ins method_5_code 4 (.dup) 1 5 := ⟨by decide +kernel, rfl⟩
theorem i8_5 : Jvm.Own.Ins method_5_code 5 (.iconst 0) 1 6 := ⟨by decide +kernel, rfl⟩
theorem i8_6 : Jvm.Own.Ins method_5_code 6 (.bipush 99) 2 8 := ⟨by decide +kernel, rfl⟩
theorem i8_8 : Jvm.Own.Ins method_5_code 8 (.castore) 1 9 := ⟨by decide +kernel, rfl⟩
theorem i8_9 : Jvm.Own.Ins method_5_code 9 (.dup) 1 10 := ⟨by decide +kernel, rfl⟩
theorem i8_10 : Jvm.Own.Ins method_5_code 10 (.iconst 1) 1 11 := ⟨by decide +kernel, rfl⟩
theorem i8_11 : Jvm.Own.Ins method_5_code 11 (.bipush 108) 2 13 := ⟨by decide +kernel, rfl⟩
theorem i8_13 : Jvm.Own.Ins method_5_code 13 (.castore) 1 14 := ⟨by decide +kernel, rfl⟩
theorem i8_14 : Jvm.Own.Ins method_5_code 14 (.dup) 1 15 := ⟨by decide +kernel, rfl⟩
theorem i8_15 : Jvm.Own.Ins method_5_code 15 (.iconst 2) 1 16 := ⟨by decide +kernel, rfl⟩
theorem i8_16 : Jvm.Own.Ins method_5_code 16 (.bipush 105) 2 18 := ⟨by decide +kernel, rfl⟩
theorem i8_18 : Jvm.Own.Ins method_5_code 18 (.castore) 1 19 := ⟨by decide +kernel, rfl⟩
theorem i8_19 : Jvm.Own.Ins method_5_code 19 (.dup) 1 20 := ⟨by decide +kernel, rfl⟩
theorem i8_20 : Jvm.Own.Ins method_5_code 20 (.iconst 3) 1 21 := ⟨by decide +kernel, rfl⟩
theorem i8_21 : Jvm.Own.Ins method_5_code 21 (.bipush 101) 2 23 := ⟨by decide +kernel, rfl⟩
theorem i8_23 : Jvm.Own.Ins method_5_code 23 (.castore) 1 24 := ⟨by decide +kernel, rfl⟩
theorem i8_24 : Jvm.Own.Ins method_5_code 24 (.dup) 1 25 := ⟨by decide +kernel, rfl⟩
theorem i8_25 : Jvm.Own.Ins method_5_code 25 (.iconst 4) 1 26 := ⟨by decide +kernel, rfl⟩
theorem i8_26 : Jvm.Own.Ins method_5_code 26 (.bipush 110) 2 28 := ⟨by decide +kernel, rfl⟩
theorem i8_28 : Jvm.Own.Ins method_5_code 28 (.castore) 1 29 := ⟨by decide +kernel, rfl⟩
theorem i8_29 : Jvm.Own.Ins method_5_code 29 (.dup) 1 30 := ⟨by decide +kernel, rfl⟩
theorem i8_30 : Jvm.Own.Ins method_5_code 30 (.iconst 5) 1 31 := ⟨by decide +kernel, rfl⟩
theorem i8_31 : Jvm.Own.Ins method_5_code 31 (.bipush 116) 2 33 := ⟨by decide +kernel, rfl⟩
theorem i8_33 : Jvm.Own.Ins method_5_code 33 (.castore) 1 34 := ⟨by decide +kernel, rfl⟩
theorem i8_34 : Jvm.Own.Ins method_5_code 34 (.dup) 1 35 := ⟨by decide +kernel, rfl⟩
theorem i8_35 : Jvm.Own.Ins method_5_code 35 (.bipush 6) 2 37 := ⟨by decide +kernel, rfl⟩
theorem i8_37 : Jvm.Own.Ins method_5_code 37 (.bipush 95) 2 39 := ⟨by decide +kernel, rfl⟩
theorem i8_39 : Jvm.Own.Ins method_5_code 39 (.castore) 1 40 := ⟨by decide +kernel, rfl⟩
theorem i8_40 : Jvm.Own.Ins method_5_code 40 (.dup) 1 41 := ⟨by decide +kernel, rfl⟩
theorem i8_41 : Jvm.Own.Ins method_5_code 41 (.bipush 7) 2 43 := ⟨by decide +kernel, rfl⟩
theorem i8_43 : Jvm.Own.Ins method_5_code 43 (.bipush 115) 2 45 := ⟨by decide +kernel, rfl⟩
theorem i8_45 : Jvm.Own.Ins method_5_code 45 (.castore) 1 46 := ⟨by decide +kernel, rfl⟩
theorem i8_46 : Jvm.Own.Ins method_5_code 46 (.dup) 1 47 := ⟨by decide +kernel, rfl⟩
theorem i8_47 : Jvm.Own.Ins method_5_code 47 (.bipush 8) 2 49 := ⟨by decide +kernel, rfl⟩
theorem i8_49 : Jvm.Own.Ins method_5_code 49 (.bipush 101) 2 51 := ⟨by decide +kernel, rfl⟩
theorem i8_51 : Jvm.Own.Ins method_5_code 51 (.castore) 1 52 := ⟨by decide +kernel, rfl⟩
theorem i8_52 : Jvm.Own.Ins method_5_code 52 (.dup) 1 53 := ⟨by decide +kernel, rfl⟩
theorem i8_53 : Jvm.Own.Ins method_5_code 53 (.bipush 9) 2 55 := ⟨by decide +kernel, rfl⟩
theorem i8_55 : Jvm.Own.Ins method_5_code 55 (.bipush 99) 2 57 := ⟨by decide +kernel, rfl⟩
theorem i8_57 : Jvm.Own.Ins method_5_code 57 (.castore) 1 58 := ⟨by decide +kernel, rfl⟩
theorem i8_58 : Jvm.Own.Ins method_5_code 58 (.dup) 1 59 := ⟨by decide +kernel, rfl⟩
theorem i8_59 : Jvm.Own.Ins method_5_code 59 (.bipush 10) 2 61 := ⟨by decide +kernel, rfl⟩
theorem i8_61 : Jvm.Own.Ins method_5_code 61 (.bipush 114) 2 63 := ⟨by decide +kernel, rfl⟩
theorem i8_63 : Jvm.Own.Ins method_5_code 63 (.castore) 1 64 := ⟨by decide +kernel, rfl⟩
theorem i8_64 : Jvm.Own.Ins method_5_code 64 (.dup) 1 65 := ⟨by decide +kernel, rfl⟩
theorem i8_65 : Jvm.Own.Ins method_5_code 65 (.bipush 11) 2 67 := ⟨by decide +kernel, rfl⟩
theorem i8_67 : Jvm.Own.Ins method_5_code 67 (.bipush 101) 2 69 := ⟨by decide +kernel, rfl⟩
theorem i8_69 : Jvm.Own.Ins method_5_code 69 (.castore) 1 70 := ⟨by decide +kernel, rfl⟩
theorem i8_70 : Jvm.Own.Ins method_5_code 70 (.dup) 1 71 := ⟨by decide +kernel, rfl⟩
theorem i8_71 : Jvm.Own.Ins method_5_code 71 (.bipush 12) 2 73 := ⟨by decide +kernel, rfl⟩
theorem i8_73 : Jvm.Own.Ins method_5_code 73 (.bipush 116) 2 75 := ⟨by decide +kernel, rfl⟩
theorem i8_75 : Jvm.Own.Ins method_5_code 75 (.castore) 1 76 := ⟨by decide +kernel, rfl⟩
theorem i8_76 : Jvm.Own.Ins method_5_code 76 (.dup) 1 77 := ⟨by decide +kernel, rfl⟩
theorem i8_77 : Jvm.Own.Ins method_5_code 77 (.bipush 13) 2 79 := ⟨by decide +kernel, rfl⟩
theorem i8_79 : Jvm.Own.Ins method_5_code 79 (.bipush 95) 2 81 := ⟨by decide +kernel, rfl⟩
theorem i8_81 : Jvm.Own.Ins method_5_code 81 (.castore) 1 82 := ⟨by decide +kernel, rfl⟩
theorem i8_82 : Jvm.Own.Ins method_5_code 82 (.dup) 1 83 := ⟨by decide +kernel, rfl⟩
theorem i8_83 : Jvm.Own.Ins method_5_code 83 (.bipush 14) 2 85 := ⟨by decide +kernel, rfl⟩
theorem i8_85 : Jvm.Own.Ins method_5_code 85 (.bipush 112) 2 87 := ⟨by decide +kernel, rfl⟩
theorem i8_87 : Jvm.Own.Ins method_5_code 87 (.castore) 1 88 := ⟨by decide +kernel, rfl⟩
theorem i8_88 : Jvm.Own.Ins method_5_code 88 (.dup) 1 89 := ⟨by decide +kernel, rfl⟩
theorem i8_89 : Jvm.Own.Ins method_5_code 89 (.bipush 15) 2 91 := ⟨by decide +kernel, rfl⟩
theorem i8_91 : Jvm.Own.Ins method_5_code 91 (.bipush 111) 2 93 := ⟨by decide +kernel, rfl⟩
theorem i8_93 : Jvm.Own.Ins method_5_code 93 (.castore) 1 94 := ⟨by decide +kernel, rfl⟩
theorem i8_94 : Jvm.Own.Ins method_5_code 94 (.dup) 1 95 := ⟨by decide +kernel, rfl⟩
theorem i8_95 : Jvm.Own.Ins method_5_code 95 (.bipush 16) 2 97 := ⟨by decide +kernel, rfl⟩
theorem i8_97 : Jvm.Own.Ins method_5_code 97 (.bipush 115) 2 99 := ⟨by decide +kernel, rfl⟩
theorem i8_99 : Jvm.Own.Ins method_5_code 99 (.castore) 1 100 := ⟨by decide +kernel, rfl⟩
theorem i8_100 : Jvm.Own.Ins method_5_code 100 (.dup) 1 101 := ⟨by decide +kernel, rfl⟩
theorem i8_101 : Jvm.Own.Ins method_5_code 101 (.bipush 17) 2 103 := ⟨by decide +kernel, rfl⟩
theorem i8_103 : Jvm.Own.Ins method_5_code 103 (.bipush 116) 2 105 := ⟨by decide +kernel, rfl⟩
theorem i8_105 : Jvm.Own.Ins method_5_code 105 (.castore) 1 106 := ⟨by decide +kernel, rfl⟩
theorem i8_106 : Jvm.Own.Ins method_5_code 106 (.dup) 1 107 := ⟨by decide +kernel, rfl⟩
theorem i8_107 : Jvm.Own.Ins method_5_code 107 (.bipush 18) 2 109 := ⟨by decide +kernel, rfl⟩
theorem i8_109 : Jvm.Own.Ins method_5_code 109 (.iload_n 0) 1 110 := ⟨by decide +kernel, rfl⟩
theorem i8_110 : Jvm.Own.Ins method_5_code 110 (.castore) 1 111 := ⟨by decide +kernel, rfl⟩
theorem i8_111 : Jvm.Own.Ins method_5_code 111 (.areturn) 1 112 := ⟨by decide +kernel, rfl⟩
theorem i9_0 : Jvm.Own.Ins method_6_code 0 (.iload_n 0) 1 1 := ⟨by decide +kernel, rfl⟩
theorem i9_1 : Jvm.Own.Ins method_6_code 1 (.ifCond .ne 7) 3 4 := ⟨by decide +kernel, rfl⟩
theorem i9_4 : Jvm.Own.Ins method_6_code 4 (.iconst 0) 1 5 := ⟨by decide +kernel, rfl⟩
theorem i9_5 : Jvm.Own.Ins method_6_code 5 (.newarray .char) 2 7 := ⟨by decide +kernel, rfl⟩
theorem i9_7 : Jvm.Own.Ins method_6_code 7 (.areturn) 1 8 := ⟨by decide +kernel, rfl⟩
theorem i9_8 : Jvm.Own.Ins method_6_code 8 (.iload_n 0) 1 9 := ⟨by decide +kernel, rfl⟩
theorem i9_9 : Jvm.Own.Ins method_6_code 9 (.iconst 1) 1 10 := ⟨by decide +kernel, rfl⟩
theorem i9_10 : Jvm.Own.Ins method_6_code 10 (.if_icmp .ne 11) 3 13 := ⟨by decide +kernel, rfl⟩
theorem i9_13 : Jvm.Own.Ins method_6_code 13 (.iconst 1) 1 14 := ⟨by decide +kernel, rfl⟩
theorem i9_14 : Jvm.Own.Ins method_6_code 14 (.newarray .char) 2 16 := ⟨by decide +kernel, rfl⟩
theorem i9_16 : Jvm.Own.Ins method_6_code 16 (.dup) 1 17 := ⟨by decide +kernel, rfl⟩
theorem i9_17 : Jvm.Own.Ins method_6_code 17 (.iconst 0) 1 18 := ⟨by decide +kernel, rfl⟩
theorem i9_18 : Jvm.Own.Ins method_6_code 18 (.iload_n 1) 1 19 := ⟨by decide +kernel, rfl⟩
theorem i9_19 : Jvm.Own.Ins method_6_code 19 (.castore) 1 20 := ⟨by decide +kernel, rfl⟩
theorem i9_20 : Jvm.Own.Ins method_6_code 20 (.areturn) 1 21 := ⟨by decide +kernel, rfl⟩
theorem i9_21 : Jvm.Own.Ins method_6_code 21 (.iload_n 0) 1 22 := ⟨by decide +kernel, rfl⟩
theorem i9_22 : Jvm.Own.Ins method_6_code 22 (.iconst 2) 1 23 := ⟨by decide +kernel, rfl⟩
theorem i9_23 : Jvm.Own.Ins method_6_code 23 (.if_icmp .ne 15) 3 26 := ⟨by decide +kernel, rfl⟩
theorem i9_26 : Jvm.Own.Ins method_6_code 26 (.iconst 2) 1 27 := ⟨by decide +kernel, rfl⟩
theorem i9_27 : Jvm.Own.Ins method_6_code 27 (.newarray .char) 2 29 := ⟨by decide +kernel, rfl⟩
theorem i9_29 : Jvm.Own.Ins method_6_code 29 (.dup) 1 30 := ⟨by decide +kernel, rfl⟩
theorem i9_30 : Jvm.Own.Ins method_6_code 30 (.iconst 0) 1 31 := ⟨by decide +kernel, rfl⟩
theorem i9_31 : Jvm.Own.Ins method_6_code 31 (.iload_n 1) 1 32 := ⟨by decide +kernel, rfl⟩
theorem i9_32 : Jvm.Own.Ins method_6_code 32 (.castore) 1 33 := ⟨by decide +kernel, rfl⟩
theorem i9_33 : Jvm.Own.Ins method_6_code 33 (.dup) 1 34 := ⟨by decide +kernel, rfl⟩
theorem i9_34 : Jvm.Own.Ins method_6_code 34 (.iconst 1) 1 35 := ⟨by decide +kernel, rfl⟩
theorem i9_35 : Jvm.Own.Ins method_6_code 35 (.iload_n 2) 1 36 := ⟨by decide +kernel, rfl⟩
theorem i9_36 : Jvm.Own.Ins method_6_code 36 (.castore) 1 37 := ⟨by decide +kernel, rfl⟩
theorem i9_37 : Jvm.Own.Ins method_6_code 37 (.areturn) 1 38 := ⟨by decide +kernel, rfl⟩
theorem i9_38 : Jvm.Own.Ins method_6_code 38 (.iconst 3) 1 39 := ⟨by decide +kernel, rfl⟩
theorem i9_39 : Jvm.Own.Ins method_6_code 39 (.newarray .char) 2 41 := ⟨by decide +kernel, rfl⟩
theorem i9_41 : Jvm.Own.Ins method_6_code 41 (.dup) 1 42 := ⟨by decide +kernel, rfl⟩
theorem i9_42 : Jvm.Own.Ins method_6_code 42 (.iconst 0) 1 43 := ⟨by decide +kernel, rfl⟩
theorem i9_43 : Jvm.Own.Ins method_6_code 43 (.iload_n 1) 1 44 := ⟨by decide +kernel, rfl⟩
theorem i9_44 : Jvm.Own.Ins method_6_code 44 (.castore) 1 45 := ⟨by decide +kernel, rfl⟩
theorem i9_45 : Jvm.Own.Ins method_6_code 45 (.dup) 1 46 := ⟨by decide +kernel, rfl⟩
theorem i9_46 : Jvm.Own.Ins method_6_code 46 (.iconst 1) 1 47 := ⟨by decide +kernel, rfl⟩
theorem i9_47 : Jvm.Own.Ins method_6_code 47 (.iload_n 2) 1 48 := ⟨by decide +kernel, rfl⟩
theorem i9_48 : Jvm.Own.Ins method_6_code 48 (.castore) 1 49 := ⟨by decide +kernel, rfl⟩
theorem i9_49 : Jvm.Own.Ins method_6_code 49 (.dup) 1 50 := ⟨by decide +kernel, rfl⟩
theorem i9_50 : Jvm.Own.Ins method_6_code 50 (.iconst 2) 1 51 := ⟨by decide +kernel, rfl⟩
theorem i9_51 : Jvm.Own.Ins method_6_code 51 (.iload_n 3) 1 52 := ⟨by decide +kernel, rfl⟩
theorem i9_52 : Jvm.Own.Ins method_6_code 52 (.castore) 1 53 := ⟨by decide +kernel, rfl⟩
theorem i9_53 : Jvm.Own.Ins method_6_code 53 (.areturn) 1 54 := ⟨by decide +kernel, rfl⟩
theorem i10_0 : Jvm.Own.Ins code 0 (.iload_n 3) 1 1 := ⟨at_0, rfl⟩
theorem i10_1 : Jvm.Own.Ins code 1 (.iconst 1) 1 2 := ⟨at_1, rfl⟩
theorem i10_2 : Jvm.Own.Ins code 2 (.iand) 1 3 := ⟨at_2, rfl⟩
theorem i10_3 : Jvm.Own.Ins code 3 (.ifCond .eq 7) 3 6 := ⟨at_3, rfl⟩
theorem i10_6 : Jvm.Own.Ins code 6 (.iconst 1) 1 7 := ⟨at_6, rfl⟩
theorem i10_7 : Jvm.Own.Ins code 7 (.goto 4) 3 10 := ⟨at_7, rfl⟩
theorem i10_10 : Jvm.Own.Ins code 10 (.iconst 0) 1 11 := ⟨at_10, rfl⟩
theorem i10_11 : Jvm.Own.Ins code 11 (.istore 4) 2 13 := ⟨at_11, rfl⟩
theorem i10_13 : Jvm.Own.Ins code 13 (.iload_n 0) 1 14 := ⟨at_13, rfl⟩
theorem i10_14 : Jvm.Own.Ins code 14 (.iconst 4) 1 15 := ⟨at_14, rfl⟩
theorem i10_15 : Jvm.Own.Ins code 15 (.iand) 1 16 := ⟨at_15, rfl⟩
theorem i10_16 : Jvm.Own.Ins code 16 (.ifCond .eq 7) 3 19 := ⟨at_16, rfl⟩
theorem i10_19 : Jvm.Own.Ins code 19 (.iconst 1) 1 20 := ⟨at_19, rfl⟩
theorem i10_20 : Jvm.Own.Ins code 20 (.goto 4) 3 23 := ⟨at_20, rfl⟩
theorem i10_23 : Jvm.Own.Ins code 23 (.iconst 0) 1 24 := ⟨at_23, rfl⟩
theorem i10_24 : Jvm.Own.Ins code 24 (.istore 5) 2 26 := ⟨at_24, rfl⟩
theorem i10_26 : Jvm.Own.Ins code 26 (.iload_n 2) 1 27 := ⟨at_26, rfl⟩
theorem i10_27 : Jvm.Own.Ins code 27 (.sipush 255) 3 30 := ⟨at_27, rfl⟩
theorem i10_30 : Jvm.Own.Ins code 30 (.iand) 1 31 := ⟨at_30, rfl⟩
theorem i10_31 : Jvm.Own.Ins code 31 (.i2c) 1 32 := ⟨at_31, rfl⟩
theorem i10_32 : Jvm.Own.Ins code 32 (.istore 6) 2 34 := ⟨at_32, rfl⟩
theorem i10_34 : Jvm.Own.Ins code 34 (.iload_n 2) 1 35 := ⟨at_34, rfl⟩
theorem i10_35 : Jvm.Own.Ins code 35 (.bipush 8) 2 37 := ⟨at_35, rfl⟩
theorem i10_37 : Jvm.Own.Ins code 37 (.iushr) 1 38 := ⟨at_37, rfl⟩
theorem i10_38 : Jvm.Own.Ins code 38 (.sipush 255) 3 41 := ⟨at_38, rfl⟩
theorem i10_41 : Jvm.Own.Ins code 41 (.iand) 1 42 := ⟨at_41, rfl⟩
theorem i10_42 : Jvm.Own.Ins code 42 (.i2c) 1 43 := ⟨at_42, rfl⟩
theorem i10_43 : Jvm.Own.Ins code 43 (.istore 7) 2 45 := ⟨at_43, rfl⟩
theorem i10_45 : Jvm.Own.Ins code 45 (.iload_n 2) 1 46 := ⟨at_45, rfl⟩
theorem i10_46 : Jvm.Own.Ins code 46 (.bipush 16) 2 48 := ⟨at_46, rfl⟩
theorem i10_48 : Jvm.Own.Ins code 48 (.iushr) 1 49 := ⟨at_48, rfl⟩
theorem i10_49 : Jvm.Own.Ins code 49 (.sipush 255) 3 52 := ⟨at_49, rfl⟩
theorem i10_52 : Jvm.Own.Ins code 52 (.iand) 1 53 := ⟨at_52, rfl⟩
theorem i10_53 : Jvm.Own.Ins code 53 (.i2c) 1 54 := ⟨at_53, rfl⟩
theorem i10_54 : Jvm.Own.Ins code 54 (.istore 8) 2 56 := ⟨at_54, rfl⟩
theorem i10_56 : Jvm.Own.Ins code 56 (.iload_n 0) 1 57 := ⟨at_56, rfl⟩
theorem i10_57 : Jvm.Own.Ins code 57 (.iconst 3) 1 58 := ⟨at_57, rfl⟩
theorem i10_58 : Jvm.Own.Ins code 58 (.iand) 1 59 := ⟨at_58, rfl⟩
theorem i10_59 : Jvm.Own.Ins code 59 (.istore 9) 2 61 := ⟨at_59, rfl⟩
theorem i10_61 : Jvm.Own.Ins code 61 (.iload 9) 2 63 := ⟨at_61, rfl⟩
theorem i10_63 : Jvm.Own.Ins code 63 (.ifCond .ne 55) 3 66 := ⟨at_63, rfl⟩
theorem i10_66 : Jvm.Own.Ins code 66 (.iload 4) 2 68 := ⟨at_66, rfl⟩
theorem i10_68 : Jvm.Own.Ins code 68 (.ifCond .eq 9) 3 71 := ⟨at_68, rfl⟩
theorem i10_71 : Jvm.Own.Ins code 71 (.invokestatic 7) 3 74 := ⟨at_71, rfl⟩
theorem i10_74 : Jvm.Own.Ins code 74 (.goto 6) 3 77 := ⟨at_74, rfl⟩
theorem i10_77 : Jvm.Own.Ins code 77 (.invokestatic 13) 3 80 := ⟨at_77, rfl⟩
theorem i10_80 : Jvm.Own.Ins code 80 (.astore 11) 2 82 := ⟨at_80, rfl⟩
theorem i10_82 : Jvm.Own.Ins code 82 (.iload 5) 2 84 := ⟨at_82, rfl⟩
theorem i10_84 : Jvm.Own.Ins code 84 (.ifCond .eq 20) 3 87 := ⟨at_84, rfl⟩
theorem i10_87 : Jvm.Own.Ins code 87 (.iload_n 1) 1 88 := ⟨at_87, rfl⟩
theorem i10_88 : Jvm.Own.Ins code 88 (.ldc 16) 2 90 := ⟨at_88, rfl⟩
theorem i10_90 : Jvm.Own.Ins code 90 (.iand) 1 91 := ⟨at_90, rfl⟩
theorem i10_91 : Jvm.Own.Ins code 91 (.aload 11) 2 93 := ⟨at_91, rfl⟩
theorem i10_93 : Jvm.Own.Ins code 93 (.arraylength) 1 94 := ⟨at_93, rfl⟩
theorem i10_94 : Jvm.Own.Ins code 94 (.irem) 1 95 := ⟨at_94, rfl⟩
theorem i10_95 : Jvm.Own.Ins code 95 (.istore 12) 2 97 := ⟨at_95, rfl⟩
theorem i10_97 : Jvm.Own.Ins code 97 (.aload 11) 2 99 := ⟨at_97, rfl⟩
theorem i10_99 : Jvm.Own.Ins code 99 (.iload 12) 2 101 := ⟨at_99, rfl⟩
theorem i10_101 : Jvm.Own.Ins code 101 (.iload 6) 2 103 := ⟨at_101, rfl⟩
theorem i10_103 : Jvm.Own.Ins code 103 (.castore) 1 104 := ⟨at_103, rfl⟩
theorem i10_104 : Jvm.Own.Ins code 104 (.new 17) 3 107 := ⟨at_104, rfl⟩
theorem i10_107 : Jvm.Own.Ins code 107 (.dup) 1 108 := ⟨at_107, rfl⟩
theorem i10_108 : Jvm.Own.Ins code 108 (.aload 11) 2 110 := ⟨at_108, rfl⟩
theorem i10_110 : Jvm.Own.Ins code 110 (.invokespecial 19) 3 113 := ⟨at_110, rfl⟩
theorem i10_113 : Jvm.Own.Ins code 113 (.astore 10) 2 115 := ⟨at_113, rfl⟩
theorem i10_115 : Jvm.Own.Ins code 115 (.goto 76) 3 118 := ⟨at_115, rfl⟩
theorem i10_118 : Jvm.Own.Ins code 118 (.iload 9) 2 120 := ⟨at_118, rfl⟩
theorem i10_120 : Jvm.Own.Ins code 120 (.iconst 1) 1 121 := ⟨at_120, rfl⟩
theorem i10_121 : Jvm.Own.Ins code 121 (.if_icmp .ne 37) 3 124 := ⟨at_121, rfl⟩
theorem i10_124 : Jvm.Own.Ins code 124 (.iload 4) 2 126 := ⟨at_124, rfl⟩
theorem i10_126 : Jvm.Own.Ins code 126 (.ifCond .eq 11) 3 129 := ⟨at_126, rfl⟩
theorem i10_129 : Jvm.Own.Ins code 129 (.iload 6) 2 131 := ⟨at_129, rfl⟩
theorem i10_131 : Jvm.Own.Ins code 131 (.invokestatic 22) 3 134 := ⟨at_131, rfl⟩
theorem i10_134 : Jvm.Own.Ins code 134 (.goto 8) 3 137 := ⟨at_134, rfl⟩
theorem i10_137 : Jvm.Own.Ins code 137 (.iload 6) 2 139 := ⟨at_137, rfl⟩
theorem i10_139 : Jvm.Own.Ins code 139 (.invokestatic 26) 3 142 := ⟨at_139, rfl⟩
theorem i10_142 : Jvm.Own.Ins code 142 (.astore 11) 2 144 := ⟨at_142, rfl⟩
theorem i10_144 : Jvm.Own.Ins code 144 (.new 17) 3 147 := ⟨at_144, rfl⟩
theorem i10_147 : Jvm.Own.Ins code 147 (.dup) 1 148 := ⟨at_147, rfl⟩
theorem i10_148 : Jvm.Own.Ins code 148 (.aload 11) 2 150 := ⟨at_148, rfl⟩
theorem i10_150 : Jvm.Own.Ins code 150 (.invokespecial 19) 3 153 := ⟨at_150, rfl⟩
theorem i10_153 : Jvm.Own.Ins code 153 (.astore 10) 2 155 := ⟨at_153, rfl⟩
theorem i10_155 : Jvm.Own.Ins code 155 (.goto 36) 3 158 := ⟨at_155, rfl⟩
theorem i10_158 : Jvm.Own.Ins code 158 (.iload 9) 2 160 := ⟨at_158, rfl⟩
theorem i10_160 : Jvm.Own.Ins code 160 (.iconst 2) 1 161 := ⟨at_160, rfl⟩
theorem i10_161 : Jvm.Own.Ins code 161 (.if_icmp .ne 27) 3 164 := ⟨at_161, rfl⟩
theorem i10_164 : Jvm.Own.Ins code 164 (.new 17) 3 167 := ⟨at_164, rfl⟩
theorem i10_167 : Jvm.Own.Ins code 167 (.dup) 1 168 := ⟨at_167, rfl⟩
theorem i10_168 : Jvm.Own.Ins code 168 (.iload_n 1) 1 169 := ⟨at_168, rfl⟩
theorem i10_169 : Jvm.Own.Ins code 169 (.iconst 3) 1 170 := ⟨at_169, rfl⟩
theorem i10_170 : Jvm.Own.Ins code 170 (.iand) 1 171 := ⟨at_170, rfl⟩
theorem i10_171 : Jvm.Own.Ins code 171 (.iload 6) 2 173 := ⟨at_171, rfl⟩
theorem i10_173 : Jvm.Own.Ins code 173 (.iload 7) 2 175 := ⟨at_173, rfl⟩
theorem i10_175 : Jvm.Own.Ins code 175 (.iload 8) 2 177 := ⟨at_175, rfl⟩
theorem i10_177 : Jvm.Own.Ins code 177 (.invokestatic 29) 3 180 := ⟨at_177, rfl⟩
theorem i10_180 : Jvm.Own.Ins code 180 (.invokespecial 19) 3 183 := ⟨at_180, rfl⟩
theorem i10_183 : Jvm.Own.Ins code 183 (.astore 10) 2 185 := ⟨at_183, rfl⟩
theorem i10_185 : Jvm.Own.Ins code 185 (.goto 6) 3 188 := ⟨at_185, rfl⟩
theorem i10_188 : Jvm.Own.Ins code 188 (.aconst_null) 1 189 := ⟨at_188, rfl⟩
theorem i10_189 : Jvm.Own.Ins code 189 (.astore 10) 2 191 := ⟨at_189, rfl⟩
theorem i10_191 : Jvm.Own.Ins code 191 (.aload 10) 2 193 := ⟨at_191, rfl⟩
theorem i10_193 : Jvm.Own.Ins code 193 (.ifnonnull 9) 3 196 := ⟨at_193, rfl⟩
theorem i10_196 : Jvm.Own.Ins code 196 (.aconst_null) 1 197 := ⟨at_196, rfl⟩
theorem i10_197 : Jvm.Own.Ins code 197 (.astore 11) 2 199 := ⟨at_197, rfl⟩
theorem i10_199 : Jvm.Own.Ins code 199 (.goto 42) 3 202 := ⟨at_199, rfl⟩
theorem i10_202 : Jvm.Own.Ins code 202 (.aload 10) 2 204 := ⟨at_202, rfl⟩
theorem i10_204 : Jvm.Own.Ins code 204 (.ldc 33) 2 206 := ⟨at_204, rfl⟩
theorem i10_206 : Jvm.Own.Ins code 206 (.invokevirtual 35) 3 209 := ⟨at_206, rfl⟩
theorem i10_209 : Jvm.Own.Ins code 209 (.ifCond .eq 11) 3 212 := ⟨at_209, rfl⟩
theorem i10_212 : Jvm.Own.Ins code 212 (.getstatic 39) 3 215 := ⟨at_212, rfl⟩
theorem i10_215 : Jvm.Own.Ins code 215 (.astore 11) 2 217 := ⟨at_215, rfl⟩
theorem i10_217 : Jvm.Own.Ins code 217 (.goto 24) 3 220 := ⟨at_217, rfl⟩
theorem i10_220 : Jvm.Own.Ins code 220 (.aload 10) 2 222 := ⟨at_220, rfl⟩
theorem i10_222 : Jvm.Own.Ins code 222 (.ldc 45) 2 224 := ⟨at_222, rfl⟩
theorem i10_224 : Jvm.Own.Ins code 224 (.invokevirtual 35) 3 227 := ⟨at_224, rfl⟩
theorem i10_227 : Jvm.Own.Ins code 227 (.ifCond .eq 11) 3 230 := ⟨at_227, rfl⟩
theorem i10_230 : Jvm.Own.Ins code 230 (.getstatic 47) 3 233 := ⟨at_230, rfl⟩
theorem i10_233 : Jvm.Own.Ins code 233 (.astore 11) 2 235 := ⟨at_233, rfl⟩
theorem i10_235 : Jvm.Own.Ins code 235 (.goto 6) 3 238 := ⟨at_235, rfl⟩
theorem i10_238 : Jvm.Own.Ins code 238 (.aconst_null) 1 239 := ⟨at_238, rfl⟩
theorem i10_239 : Jvm.Own.Ins code 239 (.astore 11) 2 241 := ⟨at_239, rfl⟩
theorem i10_241 : Jvm.Own.Ins code 241 (.aload 10) 2 243 := ⟨at_241, rfl⟩
theorem i10_243 : Jvm.Own.Ins code 243 (.invokestatic 50) 3 246 := ⟨at_243, rfl⟩
theorem i10_246 : Jvm.Own.Ins code 246 (.aload 11) 2 248 := ⟨at_246, rfl⟩
theorem i10_248 : Jvm.Own.Ins code 248 (.if_acmp .ne 7) 3 251 := ⟨at_248, rfl⟩
theorem i10_251 : Jvm.Own.Ins code 251 (.iconst 1) 1 252 := ⟨at_251, rfl⟩
theorem i10_252 : Jvm.Own.Ins code 252 (.goto 4) 3 255 := ⟨at_252, rfl⟩
theorem i10_256 : Jvm.Own.Ins code 256 (.ireturn) 1 257 := ⟨at_256, rfl⟩
theorem j1_7 : Jmp 1 (7) 8 := ⟨by decide, by decide⟩
theorem j2_5 : Jmp 2 (5) 7 := ⟨by decide, by decide⟩
theorem j3_7 : Jmp 3 (7) 10 := ⟨by decide, by decide⟩
theorem j7_4 : Jmp 7 (4) 11 := ⟨by decide, by decide⟩
theorem j10_11 : Jmp 10 (11) 21 := ⟨by decide, by decide⟩
theorem j11_29 : Jmp 11 (29) 40 := ⟨by decide, by decide⟩
theorem j11_43 : Jmp 11 (43) 54 := ⟨by decide, by decide⟩
theorem j16_7 : Jmp 16 (7) 23 := ⟨by decide, by decide⟩
theorem j20_4 : Jmp 20 (4) 24 := ⟨by decide, by decide⟩
theorem j23_15 : Jmp 23 (15) 38 := ⟨by decide, by decide⟩
theorem j28_6 : Jmp 28 (6) 34 := ⟨by decide, by decide⟩
theorem j37_m28 : Jmp 37 (-28) 9 := ⟨by decide, by decide⟩
theorem j63_55 : Jmp 63 (55) 118 := ⟨by decide, by decide⟩
theorem j68_9 : Jmp 68 (9) 77 := ⟨by decide, by decide⟩
theorem j74_6 : Jmp 74 (6) 80 := ⟨by decide, by decide⟩
theorem j84_20 : Jmp 84 (20) 104 := ⟨by decide, by decide⟩
theorem j115_76 : Jmp 115 (76) 191 := ⟨by decide, by decide⟩
theorem j121_37 : Jmp 121 (37) 158 := ⟨by decide, by decide⟩
theorem j126_11 : Jmp 126 (11) 137 := ⟨by decide, by decide⟩
theorem j134_8 : Jmp 134 (8) 142 := ⟨by decide, by decide⟩
theorem j155_36 : Jmp 155 (36) 191 := ⟨by decide, by decide⟩
theorem j161_27 : Jmp 161 (27) 188 := ⟨by decide, by decide⟩
theorem j185_6 : Jmp 185 (6) 191 := ⟨by decide, by decide⟩
theorem j193_9 : Jmp 193 (9) 202 := ⟨by decide, by decide⟩
theorem j199_42 : Jmp 199 (42) 241 := ⟨by decide, by decide⟩
theorem j209_11 : Jmp 209 (11) 220 := ⟨by decide, by decide⟩
theorem j217_24 : Jmp 217 (24) 241 := ⟨by decide, by decide⟩
theorem j227_11 : Jmp 227 (11) 238 := ⟨by decide, by decide⟩
theorem j235_6 : Jmp 235 (6) 241 := ⟨by decide, by decide⟩
theorem j252_4 : Jmp 252 (4) 256 := ⟨by decide, by decide⟩
theorem own_wS {Z : State} {a0 : Array Value} (hw : ∀ d ∈ tables_1, d.before a0 Z = true) : ∀ a ∈ Bundle.stringAtoms, a.before a0 Z = true := by
  intro a ha
  simp only [Bundle.stringAtoms, List.mem_cons, List.not_mem_nil, or_false] at ha
  rcases ha with rfl | rfl | rfl | rfl | rfl | rfl | rfl
  · exact hw _ wd_7
  · exact hw _ wd_6
  · exact hw _ wd_23
  · exact hw _ wd_33
  · exact hw _ wd_31
  · exact hw _ wd_35
  · exact hw _ wd_36
end Jvm.Pilot.@@N@@
namespace Jvm.Pilot.@@N@@
open Jvm Jvm.ClassFile Sem Op Lib Jvm.Free Jvm.Stand Jvm.LawKit Jvm.RoadKit Bundle Jvm.Own Jvm.Pilot.@@N@@.Jvm.D
section OwnStr
variable {C : Cx} {R : Room} {own : String} {b : ByteArray} {ml : Nat} {rt : Option FieldType} {nm : String} {q : Bool} {Z : State} {a0 : Array Value} {EL : List (String × Nat)} {n0 : Nat} {vm : Vm} {T : State} {h : Heap} {k n : Nat} {Q : Option Value → Heap → Prop} {pc pc' pt : Nat} {Ls Ls' : Array Slot} {st : List Value}
theorem own_strInit (X : On C R own b ml rt nm q Z a0 EL n0 vm T h k n) (hw : ∀ d ∈ tables_1, d.before a0 Z = true) {ix W k' n' : Nat} {x c0 : Addr} {kC : ClassId} {cs : List Int32} {d v0 w0 : Value} {z N : Int32} (hi : Jvm.Own.Ins b pc (.invokespecial ix) 3 pc')
    (w1 : (Cond.methodLink own ix ⟨"java/lang/String", "<init>", "([C)V"⟩).before a0 Z = true) (gx : n0 ≤ x) (E : Exa Z h x "java/lang/String") (V : Fld Z h x "java/lang/String" "value" "[B" v0) (W0 : Fld Z h x "java/lang/String" "coder" "B" w0) (K : Arv Z h c0 kC .char N (cs.map Value.int) d) (hN : N = Int32.ofNat cs.length) (l0 : 0 < cs.length) (l2 : cs.length ≤ 4000)
    (hp : ∀ c ∈ cs, ¬ c < 0 ∧ ¬ (255 : Int32) < c) (S : Sta Z Z.heap "java/lang/String" "COMPACT_STRINGS" "Z" (.int z)) (hz : ¬ z = 0) (Sf : Safe Z EL vm h x) (hsz : Ls.size = ml) (hW : 0 + (st.map fun v => v.category).sum = W) (hfr : 4 ≤ R.frames) (hlo : W + 65 ≤ R.locals)
    (hk' : k + 1 = k') (hn' : n + cs.length = n') (hc : k' ≤ R.cells) (hsl : n' ≤ R.slots)
    (g : ∀ T' h' t kb, On C R own b ml rt nm q Z a0 EL n0 vm T' h' k' n' → Keep h h' [x] → h.size ≤ t → Str Z h' x t kb cs → Go C R q Z EL n0 Q T' pc' Ls st) : Go C R q Z EL n0 Q T pc Ls (.ref c0 :: .ref x :: st) := by
  have hws : ∀ d ∈ StrChars.Road.words, d.before a0 Z = true := fun d hd => hw d ((by decide +kernel : ∀ d ∈ StrChars.Road.words, d ∈ tables_1) d hd)
  refine X.backI (W := W) (a := x) (argsL := [.ref c0]) hi (StrChars.Road.backV (W := W) X.zw hws (kI := 4) (hw _ wd_6) (cs := cs) (bs := cs.map fun c => c.toInt8.toInt32) (n := cs.length) gx X.n0le E V W0 K (S.ext X.ext0) hz rfl hN l0 l2 hp rfl hfr hlo) (fun v h' L hq => ⟨hq.2.1, CHr.keep hq.2.2.1 (sfS Sf sf0) X.chv, X.old.keep hq.2.2.1 (allS gx all0)⟩) w1 (hw _ wd_9) (hw _ wd_10) rfl (by decide) pd7 rfl rfl hsz hW hk' hn' hc hsl ?_
  rintro T' h' v L X' ⟨rfl, -, K', E', D', t, kb, -, ht, -, V', A'⟩
  refine g T' h' t kb X' K' ht ⟨E', V', D', ?_, hp⟩
  rw [hN, List.map_map] at A'; exact A'
theorem own_strEq (X : On C R own b ml rt nm q Z a0 EL n0 vm T h k n) (hw : ∀ d ∈ tables_1, d.before a0 Z = true) {ix W : Nat} {x y t t' : Addr} {kb kb' : ClassId} {cs ds : List Int32} {z : Int32} (hi : Jvm.Own.Ins b pc (.invokevirtual ix) 3 pc')
    (w1 : (Cond.methodLink own ix ⟨"java/lang/String", "equals", "(Ljava/lang/Object;)Z"⟩).before a0 Z = true) (F : Str Z h x t kb cs) (F' : Str Z h y t' kb' ds) (l2 : cs.length ≤ 4000) (l2' : ds.length ≤ 4000)
    (S : Sta Z Z.heap "java/lang/String" "COMPACT_STRINGS" "Z" (.int z)) (hz : ¬ z = 0) (hsz : Ls.size = ml) (hW : 0 + (st.map fun v => v.category).sum = W) (hfr : 2 ≤ R.frames) (hlo : W + 28 ≤ R.locals) (hc : k ≤ R.cells) (hsl : n ≤ R.slots)
    (g : ∀ T' r, On C R own b ml rt nm q Z a0 EL n0 vm T' h k n → ((r = 1 ∧ cs = ds) ∨ (r = 0 ∧ ¬ cs = ds)) → Go C R q Z EL n0 Q T' pc' Ls (.int r :: st)) : Go C R q Z EL n0 Q T pc Ls (.ref y :: .ref x :: st) := by
  have hws : ∀ d ∈ StrChars.Road.wordsEq, d.before a0 Z = true := fun d hd => hw d ((by decide +kernel : ∀ d ∈ StrChars.Road.wordsEq, d ∈ tables_1) d hd)
  refine X.backVt (W := W) (a := x) (argsL := [.ref y]) (QQ := fun v h' L => ((v = some (.int 1) ∧ cs = ds) ∨ (v = some (.int 0) ∧ ¬ cs = ds)) ∧ L = [] ∧ h' = h) hi (StrChars.Road.eqW (W := W) X.zw hws (kI := 4) (hw _ wd_6) F.1 F.2.1 F.2.2.1 F.2.2.2.1 (Or.inl ⟨rfl, rfl, rfl, fun c hc => (F.2.2.2.2 c hc).2⟩) (fun c hc => up16 (F.2.2.2.2 c hc)) l2 F'.1 F'.2.1 F'.2.2.1 F'.2.2.2.1 (Or.inl ⟨rfl, rfl, rfl, fun c hc => (F'.2.2.2.2 c hc).2⟩) (fun c hc => up16 (F'.2.2.2.2 c hc)) l2' (S.ext X.ext0) hz hfr hlo) (fun v h' L hq => ⟨by rw [hq.2.1]; exact Fr.nil _, by rw [hq.2.2]; exact CHr.refl X.chv, by rw [hq.2.2]; exact X.old⟩) F.1 w1 (hw _ wd_38) (hw _ wd_40) (nfSel X.zw (hw _ wd_40)) (hw _ wd_39) (by decide) pd1 rfl rfl hsz hW rfl rfl hc hsl ?_
  rintro T' h' v L X' ⟨hv, -, rfl⟩
  rcases hv with ⟨rfl, e⟩ | ⟨rfl, e⟩
  · exact g T' 1 X' (Or.inl ⟨rfl, e⟩)
  · exact g T' 0 X' (Or.inr ⟨rfl, e⟩)
end OwnStr
end Jvm.Pilot.@@N@@
namespace Jvm.Pilot.@@N@@
open Jvm Jvm.ClassFile Sem Op Lib Jvm.Free Jvm.Stand Jvm.LawKit Jvm.RoadKit Bundle Jvm.Own Jvm.Pilot.@@N@@.Jvm.D
abbrev own_csB : List Int32 := [(99 : Int32), (108 : Int32), (105 : Int32), (101 : Int32), (110 : Int32), (116 : Int32), (95 : Int32), (115 : Int32), (101 : Int32), (99 : Int32), (114 : Int32), (101 : Int32), (116 : Int32), (95 : Int32), (98 : Int32), (97 : Int32), (115 : Int32), (105 : Int32), (99 : Int32)]
abbrev own_csP : List Int32 := [(99 : Int32), (108 : Int32), (105 : Int32), (101 : Int32), (110 : Int32), (116 : Int32), (95 : Int32), (115 : Int32), (101 : Int32), (99 : Int32), (114 : Int32), (101 : Int32), (116 : Int32), (95 : Int32), (112 : Int32), (111 : Int32), (115 : Int32), (116 : Int32)]
theorem own_bB : (own_csB.map fun c => Value.int c.toInt8.toInt32) = [.int (99 : Int32), .int (108 : Int32), .int (105 : Int32), .int (101 : Int32), .int (110 : Int32), .int (116 : Int32), .int (95 : Int32), .int (115 : Int32), .int (101 : Int32), .int (99 : Int32), .int (114 : Int32), .int (101 : Int32), .int (116 : Int32), .int (95 : Int32), .int (98 : Int32), .int (97 : Int32), .int (115 : Int32), .int (105 : Int32), .int (99 : Int32)] := by decide +kernel
theorem own_bP : (own_csP.map fun c => Value.int c.toInt8.toInt32) = [.int (99 : Int32), .int (108 : Int32), .int (105 : Int32), .int (101 : Int32), .int (110 : Int32), .int (116 : Int32), .int (95 : Int32), .int (115 : Int32), .int (101 : Int32), .int (99 : Int32), .int (114 : Int32), .int (101 : Int32), .int (116 : Int32), .int (95 : Int32), .int (112 : Int32), .int (111 : Int32), .int (115 : Int32), .int (116 : Int32)] := by decide +kernel
theorem own_lB : ∀ c ∈ own_csB, ¬ c < 0 ∧ ¬ (255 : Int32) < c := by decide +kernel
theorem own_lP : ∀ c ∈ own_csP, ¬ c < 0 ∧ ¬ (255 : Int32) < c := by decide +kernel
def own_mk (n x y : Int32) : List Int32 := if n = 0 then [] else if n = 1 then [x] else [x, y]
theorem own_mk0 (x y : Int32) : own_mk 0 x y = [] := by simp [own_mk]
theorem own_mk1 (x y : Int32) : own_mk 1 x y = [x] := by simp [own_mk]
theorem own_mk2 (x y : Int32) : own_mk 2 x y = [x, y] := by simp [own_mk]
theorem own_mklen (n x y : Int32) : (own_mk n x y).length ≤ 4000 := by
  unfold own_mk
  split
  · simp
  · split <;> simp
abbrev own_lat (c : Int32) : Prop := ¬ c < 0 ∧ ¬ (255 : Int32) < c
theorem own_latr {c : Int32} (h : own_lat c) : 0 ≤ c.toInt ∧ c.toInt ≤ 255 := by
  have e0 : (0 : Int32).toInt = 0 := by decide
  have e1 : (255 : Int32).toInt = 255 := by decide
  have h1 : ¬ c.toInt < 0 := fun z => h.1 (Int32.lt_iff_toInt_lt.mpr (by omega))
  have h2 : ¬ 255 < c.toInt := fun z => h.2 (Int32.lt_iff_toInt_lt.mpr (by omega))
  omega
theorem own_i2c {c : Int32} (h : own_lat c) : c.toUInt32.toUInt16.toUInt32.toInt32 = c := by
  have q := c_i2c c
  have r := own_latr h
  apply Int32.toInt_inj.mp
  omega
theorem own_and3 (x : Int32) : x &&& 3 = 0 ∨ x &&& 3 = 1 ∨ x &&& 3 = 2 ∨ x &&& 3 = 3 := by
  have q := c_mask x 3 2 (by decide) (by decide)
  have e0 : (0 : Int32).toInt = 0 := by decide
  have e1 : (1 : Int32).toInt = 1 := by decide
  have e2 : (2 : Int32).toInt = 2 := by decide
  have e3 : (3 : Int32).toInt = 3 := by decide
  have r : (x &&& 3).toInt = 0 ∨ (x &&& 3).toInt = 1 ∨ (x &&& 3).toInt = 2 ∨ (x &&& 3).toInt = 3 := by omega
  rcases r with r | r | r | r
  · exact Or.inl (Int32.toInt_inj.mp (r.trans e0.symm))
  · exact Or.inr (Or.inl (Int32.toInt_inj.mp (r.trans e1.symm)))
  · exact Or.inr (Or.inr (Or.inl (Int32.toInt_inj.mp (r.trans e2.symm))))
  · exact Or.inr (Or.inr (Or.inr (Int32.toInt_inj.mp (r.trans e3.symm))))
theorem own_ix {x z : Int32} (hz : 0 < z) : ¬ ((x &&& (2147483647 : Int32)) % z) < 0 ∧ ((x &&& (2147483647 : Int32)) % z) < z := by
  have q := c_and x 2147483647 (by decide)
  have e0 : (0 : Int32).toInt = 0 := by decide
  have hz' := Int32.lt_iff_toInt_lt.mp hz
  have r := (c_iremV (x &&& 2147483647) z).1 q.1 (by omega)
  constructor
  · intro w; have := Int32.lt_iff_toInt_lt.mp w; omega
  · exact Int32.lt_iff_toInt_lt.mpr r.2.1
theorem own_ixn {j z : Int32} {n : Nat} (h : ¬ j < 0 ∧ j < z) (hz : z.toInt = n) : j.toNatClampNeg < n := by
  have e0 : (0 : Int32).toInt = 0 := by decide
  have h1 : ¬ j.toInt < 0 := fun w => h.1 (Int32.lt_iff_toInt_lt.mpr (by omega))
  have h2 := Int32.lt_iff_toInt_lt.mp h.2
  show j.toInt.toNat < n
  omega
theorem own_setlat {cs : List Int32} {i : Nat} {c : Int32} (h : ∀ x ∈ cs, own_lat x) (hc : own_lat c) : ∀ x ∈ cs.set i c, own_lat x := fun x hx => (List.mem_or_eq_of_mem_set hx).elim (h x) (fun e => e ▸ hc)
theorem own_mapset {cs : List Int32} {i : Nat} {c : Int32} {vs : List Value} (h : vs = cs.map Value.int) : vs.set i (.int c) = (cs.set i c).map Value.int := by rw [h, List.map_set]
set_option maxRecDepth 65536 in
set_option maxHeartbeats 40000000 in
theorem c_values (l : Launch) {Z : State} {a0 : Array Value} {n0 : Nat} (hw : ∀ d ∈ tables_1, d.before a0 Z = true) (hEL : EW Z a0 own_EL) {zc : Int32} (hcs : Sta Z Z.heap "java/lang/String" "COMPACT_STRINGS" "Z" (.int zc)) (hcz : ¬ zc = 0) {eB eP mB tB mP tP : Addr} {bB bP : ClassId} (hSB : Sta Z Z.heap "com/example/grant/grant/providers/ClientAuthentication" "BASIC" "Lcom/example/grant/grant/providers/ClientAuthentication;" (.ref eB)) (hSP : Sta Z Z.heap "com/example/grant/grant/providers/ClientAuthentication" "POST" "Lcom/example/grant/grant/providers/ClientAuthentication;" (.ref eP)) (hFB : Fld Z Z.heap eB "com/example/grant/grant/providers/ClientAuthentication" "method" "Ljava/lang/String;" (.ref mB)) (hFP : Fld Z Z.heap eP "com/example/grant/grant/providers/ClientAuthentication" "method" "Ljava/lang/String;" (.ref mP)) (hTB : Str Z Z.heap mB tB bB own_csB) (hTP : Str Z Z.heap mP tP bP own_csP) {eV : Addr} {kV : ClassId} (hSV : Sta Z Z.heap "com/example/grant/grant/providers/ClientAuthentication" "$VALUES" "[Lcom/example/grant/grant/providers/ClientAuthentication;" (.ref eV)) (hEV : Exa Z Z.heap eV "[Lcom/example/grant/grant/providers/ClientAuthentication;") (hVV : Arv Z Z.heap eV kV (.object "com/example/grant/grant/providers/ClientAuthentication") (2 : Int32) [(.ref eB), (.ref eP)] .null) {h : Heap} (hO : Old Z n0 h)   :
    Con [] false l Z own_EL n0 [] (⟨"com/example/grant/grant/providers/ClientAuthentication", "values", "()[Lcom/example/grant/grant/providers/ClientAuthentication;"⟩ : MethodName) prog_12_method_1_code 0 (some (.array (.object "com/example/grant/grant/providers/ClientAuthentication"))) ({ frames := 1, cells := 1, slots := 2, locals := 14 } : Room) #[] h (fun v h' => ∃ (r : Addr), v = some (.ref r) ∧ Ext h h' ∧ h.size ≤ r ∧ Exa Z h' r "[Lcom/example/grant/grant/providers/ClientAuthentication;" ∧ Arv Z h' r kV (.object "com/example/grant/grant/providers/ClientAuthentication") (2 : Int32) [(.ref eB), (.ref eP)] .null) := by
  refine Con.intro (Ls := #[]) pn0 hEL hO (fun m => by first | rfl | (simp [entryFrame, mkF, argsToLocals, Value.category]; done)) fun C vm T hl X hs => ?_
  have X : On C ({ frames := 1, cells := 1, slots := 2, locals := 14 } : Room) "com/example/grant/grant/providers/ClientAuthentication" prog_12_method_1_code 0 (some (.array (.object "com/example/grant/grant/providers/ClientAuthentication"))) "values" false Z a0 own_EL n0 vm T h 0 0 := X
  refine X.getstatic i0_0 (hw _ wd_57) Via.refl (hSV.ext X.ext0) fun T1 X1 => ?_
  refine X1.clone i0_3 (hw _ wd_59) (hw _ wd_60) (hw _ wd_64) (hw _ wd_62) (hw _ wd_63) (hw _ wd_65) (hVV.ext X1.ext0) (hEV.ext X1.ext0) rfl (W := 0) rfl (by decide) (by decide) (cap := 2) (by decide) (k' := 1) rfl (n' := 2) rfl (by decide) (by decide) fun T2 h2 a2 X2 E2 z2 g2 V2 A2 Sf2 => ?_
  refine X2.checkcast i0_6 (hw _ wd_68) (RoadKit.Ins.self A2) fun T3 X3 => ?_
  exact X3.areturn i0_9 rfl rfl rfl (by decide) (by decide) ⟨a2, rfl, E2, (Nat.le_of_eq z2), A2, V2⟩
set_option maxRecDepth 65536 in
set_option maxHeartbeats 40000000 in
theorem c_eq0 (l : Launch) {Z : State} {a0 : Array Value} {n0 : Nat} (hw : ∀ d ∈ tables_1, d.before a0 Z = true) (hEL : EW Z a0 own_EL) {zc : Int32} (hcs : Sta Z Z.heap "java/lang/String" "COMPACT_STRINGS" "Z" (.int zc)) (hcz : ¬ zc = 0) {eB eP mB tB mP tP : Addr} {bB bP : ClassId} (hSB : Sta Z Z.heap "com/example/grant/grant/providers/ClientAuthentication" "BASIC" "Lcom/example/grant/grant/providers/ClientAuthentication;" (.ref eB)) (hSP : Sta Z Z.heap "com/example/grant/grant/providers/ClientAuthentication" "POST" "Lcom/example/grant/grant/providers/ClientAuthentication;" (.ref eP)) (hFB : Fld Z Z.heap eB "com/example/grant/grant/providers/ClientAuthentication" "method" "Ljava/lang/String;" (.ref mB)) (hFP : Fld Z Z.heap eP "com/example/grant/grant/providers/ClientAuthentication" "method" "Ljava/lang/String;" (.ref mP)) (hTB : Str Z Z.heap mB tB bB own_csB) (hTP : Str Z Z.heap mP tP bP own_csP) {eV : Addr} {kV : ClassId} (hSV : Sta Z Z.heap "com/example/grant/grant/providers/ClientAuthentication" "$VALUES" "[Lcom/example/grant/grant/providers/ClientAuthentication;" (.ref eV)) (hEV : Exa Z Z.heap eV "[Lcom/example/grant/grant/providers/ClientAuthentication;") (hVV : Arv Z Z.heap eV kV (.object "com/example/grant/grant/providers/ClientAuthentication") (2 : Int32) [(.ref eB), (.ref eP)] .null) {h : Heap} (hO : Old Z n0 h) (x : Addr)  :
    Con [] false l Z own_EL n0 [] (⟨"java/lang/String", "equals", "(Ljava/lang/Object;)Z"⟩ : MethodName) jdk_42_method_66_code 3 (some .boolean) ({ frames := 0, cells := 0, slots := 0, locals := 0 } : Room) #[(.ref x), .null] h (fun v h' => v = some (.int (0 : Int32)) ∧ h = h') := by
  refine Con.intro (Ls := #[.val (.ref x), .val .null, .unset]) pn1 hEL hO (fun m => by first | rfl | (simp [entryFrame, mkF, argsToLocals, Value.category]; done)) fun C vm T hl X hs => ?_
  have X : On C ({ frames := 0, cells := 0, slots := 0, locals := 0 } : Room) "java/lang/String" jdk_42_method_66_code 3 (some .boolean) "equals" false Z a0 own_EL n0 vm T h 0 0 := X
  refine X.aload_n i1_0 rfl rfl ?_
  refine X.aload_n i1_1 rfl rfl ?_
  refine X.acY i1_2 j2_5 rfl rfl (XT.aa_ne_t (fun z => nomatch z)) ?_
  refine X.aload_n i1_7 rfl rfl ?_
  refine X.instNull i1_8 ?_
  refine X.ifY i1_11 j11_43 (by decide) ?_
  refine X.iconst i1_54 (z := (0 : Int32)) rfl ?_
  exact X.ireturn i1_55 (t := .boolean) rfl (by decide) rfl (by decide) (by decide) ⟨rfl, rfl⟩
set_option maxRecDepth 65536 in
set_option maxHeartbeats 40000000 in
theorem c_named (l : Launch) {Z : State} {a0 : Array Value} {n0 : Nat} (hw : ∀ d ∈ tables_1, d.before a0 Z = true) (hEL : EW Z a0 own_EL) {zc : Int32} (hcs : Sta Z Z.heap "java/lang/String" "COMPACT_STRINGS" "Z" (.int zc)) (hcz : ¬ zc = 0) {eB eP mB tB mP tP : Addr} {bB bP : ClassId} (hSB : Sta Z Z.heap "com/example/grant/grant/providers/ClientAuthentication" "BASIC" "Lcom/example/grant/grant/providers/ClientAuthentication;" (.ref eB)) (hSP : Sta Z Z.heap "com/example/grant/grant/providers/ClientAuthentication" "POST" "Lcom/example/grant/grant/providers/ClientAuthentication;" (.ref eP)) (hFB : Fld Z Z.heap eB "com/example/grant/grant/providers/ClientAuthentication" "method" "Ljava/lang/String;" (.ref mB)) (hFP : Fld Z Z.heap eP "com/example/grant/grant/providers/ClientAuthentication" "method" "Ljava/lang/String;" (.ref mP)) (hTB : Str Z Z.heap mB tB bB own_csB) (hTP : Str Z Z.heap mP tP bP own_csP) {eV : Addr} {kV : ClassId} (hSV : Sta Z Z.heap "com/example/grant/grant/providers/ClientAuthentication" "$VALUES" "[Lcom/example/grant/grant/providers/ClientAuthentication;" (.ref eV)) (hEV : Exa Z Z.heap eV "[Lcom/example/grant/grant/providers/ClientAuthentication;") (hVV : Arv Z Z.heap eV kV (.object "com/example/grant/grant/providers/ClientAuthentication") (2 : Int32) [(.ref eB), (.ref eP)] .null) {h : Heap} (hO : Old Z n0 h) (s : Addr) (t : Addr) (bs : ClassId) (cs : List Int32) (S_s : Str Z h s t bs cs) (lc : cs.length ≤ 4000) :
    Con [] false l Z own_EL n0 [] (⟨"com/example/grant/grant/providers/ClientAuthentication", "named", "(Ljava/lang/String;)Lcom/example/grant/grant/providers/ClientAuthentication;"⟩ : MethodName) prog_12_method_5_code 5 (some (.object "com/example/grant/grant/providers/ClientAuthentication")) ({ frames := 2, cells := 1, slots := 2, locals := 28 } : Room) #[(.ref s)] h (fun v h' => ∃ (r : Value), v = some r ∧ Ext h h' ∧ (r.isRef = true ∧ ((r = .ref eB ∧ own_csB = cs) ∨ (r = .ref eP ∧ ¬ own_csB = cs ∧ own_csP = cs) ∨ (r = .null ∧ ¬ own_csB = cs ∧ ¬ own_csP = cs)))) := by
  refine Con.intro (Ls := #[.val (.ref s), .unset, .unset, .unset, .unset]) pn2 hEL hO (fun m => by first | rfl | (simp [entryFrame, mkF, argsToLocals, Value.category]; done)) fun C vm T hl X hs => ?_
  have X : On C ({ frames := 2, cells := 1, slots := 2, locals := 28 } : Room) "com/example/grant/grant/providers/ClientAuthentication" prog_12_method_5_code 5 (some (.object "com/example/grant/grant/providers/ClientAuthentication")) "named" false Z a0 own_EL n0 vm T h 0 0 := X
  refine X.callS hl (argsL := []) i2_0 (c_values l hw hEL hcs hcz hSB hSP hFB hFP hTB hTP hSV hEV hVV X.old  ) (hw _ wd_54) (hw _ wd_55) (hw _ wd_49) (hw _ wd_56) (by decide) sf_nil pd0 rfl rfl rfl (W := 0) rfl (by decide) (by decide) (k' := 1) rfl (n' := 2) rfl (by decide) (by decide) fun vm1 T1 h1 v1 X1 r1 Q1 => ?_
  obtain ⟨r_1, rfl, q1_0, q1_1, q1_2, q1_3⟩ := Q1
  have g2 := Nat.le_trans X.n0le q1_1
  show Go _ _ _ _ _ _ _ T1 3 #[.val (.ref s), .unset, .unset, .unset, .unset] [(.ref r_1)]
  refine X1.astore_n i2_3 rfl (Ls' := #[.val (.ref s), .val (.ref r_1), .unset, .unset, .unset]) rfl ?_
  refine X1.aload_n i2_4 rfl rfl ?_
  refine X1.arraylength i2_5 q1_3 ?_
  refine X1.istore_n i2_6 (Ls' := #[.val (.ref s), .val (.ref r_1), .val (.int (2 : Int32)), .unset, .unset]) rfl ?_
  refine X1.iconst i2_7 (z := (0 : Int32)) rfl ?_
  refine X1.istore_n i2_8 (Ls' := #[.val (.ref s), .val (.ref r_1), .val (.int (2 : Int32)), .val (.int (0 : Int32)), .unset]) rfl ?_
  refine X1.iload_n i2_9 rfl ?_
  refine X1.iload_n i2_10 rfl ?_
  refine X1.icN i2_11 (by decide) ?_
  refine X1.aload_n i2_14 rfl rfl ?_
  refine X1.iload_n i2_15 rfl ?_
  refine X1.aaload i2_16 q1_3 rfl ⟨by decide, by decide⟩ rfl ?_
  refine X1.astore i2_17 rfl (Ls' := #[.val (.ref s), .val (.ref r_1), .val (.int (2 : Int32)), .val (.int (0 : Int32)), .val (.ref eB)]) rfl ?_
  refine X1.aload i2_19 rfl rfl ?_
  refine X1.getfield i2_21 (hw _ wd_70) Via.refl (hFB.ext X1.ext0) fun T3 X3 => ?_
  refine X3.aload_n i2_24 rfl rfl ?_
  have S4 := (S_s.ext q1_0)
  refine own_strEq X3 hw i2_25 (hw _ wd_72) (hTB.ext X3.ext0) S4 (Nat.le_of_ble_eq_true rfl) lc hcs hcz rfl (W := 0) rfl (by decide) (by decide) (by decide) (by decide) fun T5 r5 X5 q5 => ?_
  rcases q5 with ⟨rfl, he⟩ | ⟨rfl, he⟩
  · skip
    refine X5.ifN i2_28 (by decide) ?_
    refine X5.aload i2_31 rfl rfl ?_
    exact X5.areturn i2_33 rfl rfl rfl (by decide) (by decide) ⟨(.ref eB), rfl, q1_0, ⟨rfl, Or.inl ⟨rfl, he⟩⟩⟩
  · skip
    refine X5.ifY i2_28 j28_6 (by decide) ?_
    refine X5.iinc i2_34 rfl (y := (1 : Int32)) rfl (Ls' := #[.val (.ref s), .val (.ref r_1), .val (.int (2 : Int32)), .val (.int (1 : Int32)), .val (.ref eB)]) rfl ?_
    refine X5.goto i2_37 j37_m28 ?_
    refine X5.iload_n i2_9 rfl ?_
    refine X5.iload_n i2_10 rfl ?_
    refine X5.icN i2_11 (by decide) ?_
    refine X5.aload_n i2_14 rfl rfl ?_
    refine X5.iload_n i2_15 rfl ?_
    refine X5.aaload i2_16 q1_3 rfl ⟨by decide, by decide⟩ rfl ?_
    refine X5.astore i2_17 rfl (Ls' := #[.val (.ref s), .val (.ref r_1), .val (.int (2 : Int32)), .val (.int (1 : Int32)), .val (.ref eP)]) rfl ?_
    refine X5.aload i2_19 rfl rfl ?_
    refine X5.getfield i2_21 (hw _ wd_70) Via.refl (hFP.ext X5.ext0) fun T6 X6 => ?_
    refine X6.aload_n i2_24 rfl rfl ?_
    refine own_strEq X6 hw i2_25 (hw _ wd_72) (hTP.ext X6.ext0) S4 (Nat.le_of_ble_eq_true rfl) lc hcs hcz rfl (W := 0) rfl (by decide) (by decide) (by decide) (by decide) fun T7 r7 X7 q7 => ?_
    rcases q7 with ⟨rfl, hf⟩ | ⟨rfl, hf⟩
    · skip
      refine X7.ifN i2_28 (by decide) ?_
      refine X7.aload i2_31 rfl rfl ?_
      exact X7.areturn i2_33 rfl rfl rfl (by decide) (by decide) ⟨(.ref eP), rfl, q1_0, ⟨rfl, Or.inr (Or.inl ⟨rfl, he, hf⟩)⟩⟩
    · skip
      refine X7.ifY i2_28 j28_6 (by decide) ?_
      refine X7.iinc i2_34 rfl (y := (2 : Int32)) rfl (Ls' := #[.val (.ref s), .val (.ref r_1), .val (.int (2 : Int32)), .val (.int (2 : Int32)), .val (.ref eP)]) rfl ?_
      refine X7.goto i2_37 j37_m28 ?_
      refine X7.iload_n i2_9 rfl ?_
      refine X7.iload_n i2_10 rfl ?_
      refine X7.icY i2_11 j11_29 (by decide) ?_
      refine X7.aconst_null i2_40 ?_
      exact X7.areturn i2_41 rfl rfl rfl (by decide) (by decide) ⟨.null, rfl, q1_0, ⟨rfl, Or.inr (Or.inr ⟨rfl, he, hf⟩)⟩⟩
set_option maxRecDepth 65536 in
set_option maxHeartbeats 40000000 in
theorem c_named0 (l : Launch) {Z : State} {a0 : Array Value} {n0 : Nat} (hw : ∀ d ∈ tables_1, d.before a0 Z = true) (hEL : EW Z a0 own_EL) {zc : Int32} (hcs : Sta Z Z.heap "java/lang/String" "COMPACT_STRINGS" "Z" (.int zc)) (hcz : ¬ zc = 0) {eB eP mB tB mP tP : Addr} {bB bP : ClassId} (hSB : Sta Z Z.heap "com/example/grant/grant/providers/ClientAuthentication" "BASIC" "Lcom/example/grant/grant/providers/ClientAuthentication;" (.ref eB)) (hSP : Sta Z Z.heap "com/example/grant/grant/providers/ClientAuthentication" "POST" "Lcom/example/grant/grant/providers/ClientAuthentication;" (.ref eP)) (hFB : Fld Z Z.heap eB "com/example/grant/grant/providers/ClientAuthentication" "method" "Ljava/lang/String;" (.ref mB)) (hFP : Fld Z Z.heap eP "com/example/grant/grant/providers/ClientAuthentication" "method" "Ljava/lang/String;" (.ref mP)) (hTB : Str Z Z.heap mB tB bB own_csB) (hTP : Str Z Z.heap mP tP bP own_csP) {eV : Addr} {kV : ClassId} (hSV : Sta Z Z.heap "com/example/grant/grant/providers/ClientAuthentication" "$VALUES" "[Lcom/example/grant/grant/providers/ClientAuthentication;" (.ref eV)) (hEV : Exa Z Z.heap eV "[Lcom/example/grant/grant/providers/ClientAuthentication;") (hVV : Arv Z Z.heap eV kV (.object "com/example/grant/grant/providers/ClientAuthentication") (2 : Int32) [(.ref eB), (.ref eP)] .null) {h : Heap} (hO : Old Z n0 h)   :
    Con [] false l Z own_EL n0 [] (⟨"com/example/grant/grant/providers/ClientAuthentication", "named", "(Ljava/lang/String;)Lcom/example/grant/grant/providers/ClientAuthentication;"⟩ : MethodName) prog_12_method_5_code 5 (some (.object "com/example/grant/grant/providers/ClientAuthentication")) ({ frames := 2, cells := 1, slots := 2, locals := 25 } : Room) #[.null] h (fun v h' => v = some .null ∧ Ext h h') := by
  refine Con.intro (Ls := #[.val .null, .unset, .unset, .unset, .unset]) pn2 hEL hO (fun m => by first | rfl | (simp [entryFrame, mkF, argsToLocals, Value.category]; done)) fun C vm T hl X hs => ?_
  have X : On C ({ frames := 2, cells := 1, slots := 2, locals := 25 } : Room) "com/example/grant/grant/providers/ClientAuthentication" prog_12_method_5_code 5 (some (.object "com/example/grant/grant/providers/ClientAuthentication")) "named" false Z a0 own_EL n0 vm T h 0 0 := X
  refine X.callS hl (argsL := []) i2_0 (c_values l hw hEL hcs hcz hSB hSP hFB hFP hTB hTP hSV hEV hVV X.old  ) (hw _ wd_54) (hw _ wd_55) (hw _ wd_49) (hw _ wd_56) (by decide) sf_nil pd0 rfl rfl rfl (W := 0) rfl (by decide) (by decide) (k' := 1) rfl (n' := 2) rfl (by decide) (by decide) fun vm1 T1 h1 v1 X1 r1 Q1 => ?_
  obtain ⟨r_1, rfl, q1_0, q1_1, q1_2, q1_3⟩ := Q1
  have g2 := Nat.le_trans X.n0le q1_1
  show Go _ _ _ _ _ _ _ T1 3 #[.val .null, .unset, .unset, .unset, .unset] [(.ref r_1)]
  refine X1.astore_n i2_3 rfl (Ls' := #[.val .null, .val (.ref r_1), .unset, .unset, .unset]) rfl ?_
  refine X1.aload_n i2_4 rfl rfl ?_
  refine X1.arraylength i2_5 q1_3 ?_
  refine X1.istore_n i2_6 (Ls' := #[.val .null, .val (.ref r_1), .val (.int (2 : Int32)), .unset, .unset]) rfl ?_
  refine X1.iconst i2_7 (z := (0 : Int32)) rfl ?_
  refine X1.istore_n i2_8 (Ls' := #[.val .null, .val (.ref r_1), .val (.int (2 : Int32)), .val (.int (0 : Int32)), .unset]) rfl ?_
  refine X1.iload_n i2_9 rfl ?_
  refine X1.iload_n i2_10 rfl ?_
  refine X1.icN i2_11 (by decide) ?_
  refine X1.aload_n i2_14 rfl rfl ?_
  refine X1.iload_n i2_15 rfl ?_
  refine X1.aaload i2_16 q1_3 rfl ⟨by decide, by decide⟩ rfl ?_
  refine X1.astore i2_17 rfl (Ls' := #[.val .null, .val (.ref r_1), .val (.int (2 : Int32)), .val (.int (0 : Int32)), .val (.ref eB)]) rfl ?_
  refine X1.aload i2_19 rfl rfl ?_
  refine X1.getfield i2_21 (hw _ wd_70) Via.refl (hFB.ext X1.ext0) fun T3 X3 => ?_
  refine X3.aload_n i2_24 rfl rfl ?_
  refine X3.callV hl (argsL := [.null]) (a := mB) i2_25 (c_eq0 l hw hEL hcs hcz hSB hSP hFB hFP hTB hTP hSV hEV hVV X3.old mB ) (hTB.1.ext X3.ext0) (hw _ wd_72) (hw _ wd_38) (hw _ wd_40) (nfSel X3.zw (hw _ wd_40)) (hw _ wd_39) (hw _ wd_7) (hw _ wd_41) (by decide) sf_nil pd1 rfl rfl rfl (W := 0) rfl (by decide) (by decide) (k' := 1) rfl (n' := 2) rfl (by decide) (by decide) fun vm4 T4 h4 v4 X4 r4 Q4 => ?_
  obtain ⟨rfl, rfl⟩ := Q4
  show Go _ _ _ _ _ _ _ T4 28 #[.val .null, .val (.ref r_1), .val (.int (2 : Int32)), .val (.int (0 : Int32)), .val (.ref eB)] [(.int (0 : Int32))]
  refine X4.ifY i2_28 j28_6 (by decide) ?_
  refine X4.iinc i2_34 rfl (y := (1 : Int32)) rfl (Ls' := #[.val .null, .val (.ref r_1), .val (.int (2 : Int32)), .val (.int (1 : Int32)), .val (.ref eB)]) rfl ?_
  refine X4.goto i2_37 j37_m28 ?_
  refine X4.iload_n i2_9 rfl ?_
  refine X4.iload_n i2_10 rfl ?_
  refine X4.icN i2_11 (by decide) ?_
  refine X4.aload_n i2_14 rfl rfl ?_
  refine X4.iload_n i2_15 rfl ?_
  refine X4.aaload i2_16 q1_3 rfl ⟨by decide, by decide⟩ rfl ?_
  refine X4.astore i2_17 rfl (Ls' := #[.val .null, .val (.ref r_1), .val (.int (2 : Int32)), .val (.int (1 : Int32)), .val (.ref eP)]) rfl ?_
  refine X4.aload i2_19 rfl rfl ?_
  refine X4.getfield i2_21 (hw _ wd_70) Via.refl (hFP.ext X4.ext0) fun T5 X5 => ?_
  refine X5.aload_n i2_24 rfl rfl ?_
  refine X5.callV hl (argsL := [.null]) (a := mP) i2_25 (c_eq0 l hw hEL hcs hcz hSB hSP hFB hFP hTB hTP hSV hEV hVV X5.old mP ) (hTP.1.ext X5.ext0) (hw _ wd_72) (hw _ wd_38) (hw _ wd_40) (nfSel X5.zw (hw _ wd_40)) (hw _ wd_39) (hw _ wd_7) (hw _ wd_41) (by decide) sf_nil pd1 rfl rfl rfl (W := 0) rfl (by decide) (by decide) (k' := 1) rfl (n' := 2) rfl (by decide) (by decide) fun vm6 T6 h6 v6 X6 r6 Q6 => ?_
  obtain ⟨rfl, rfl⟩ := Q6
  show Go _ _ _ _ _ _ _ T6 28 #[.val .null, .val (.ref r_1), .val (.int (2 : Int32)), .val (.int (1 : Int32)), .val (.ref eP)] [(.int (0 : Int32))]
  refine X6.ifY i2_28 j28_6 (by decide) ?_
  refine X6.iinc i2_34 rfl (y := (2 : Int32)) rfl (Ls' := #[.val .null, .val (.ref r_1), .val (.int (2 : Int32)), .val (.int (2 : Int32)), .val (.ref eP)]) rfl ?_
  refine X6.goto i2_37 j37_m28 ?_
  refine X6.iload_n i2_9 rfl ?_
  refine X6.iload_n i2_10 rfl ?_
  refine X6.icY i2_11 j11_29 (by decide) ?_
  refine X6.aconst_null i2_40 ?_
  exact X6.areturn i2_41 rfl rfl rfl (by decide) (by decide) ⟨rfl, q1_0⟩
set_option maxRecDepth 65536 in
set_option maxHeartbeats 40000000 in
theorem c_se4 (l : Launch) {Z : State} {a0 : Array Value} {n0 : Nat} (hw : ∀ d ∈ tables_1, d.before a0 Z = true) (hEL : EW Z a0 own_EL) {zc : Int32} (hcs : Sta Z Z.heap "java/lang/String" "COMPACT_STRINGS" "Z" (.int zc)) (hcz : ¬ zc = 0) {eB eP mB tB mP tP : Addr} {bB bP : ClassId} (hSB : Sta Z Z.heap "com/example/grant/grant/providers/ClientAuthentication" "BASIC" "Lcom/example/grant/grant/providers/ClientAuthentication;" (.ref eB)) (hSP : Sta Z Z.heap "com/example/grant/grant/providers/ClientAuthentication" "POST" "Lcom/example/grant/grant/providers/ClientAuthentication;" (.ref eP)) (hFB : Fld Z Z.heap eB "com/example/grant/grant/providers/ClientAuthentication" "method" "Ljava/lang/String;" (.ref mB)) (hFP : Fld Z Z.heap eP "com/example/grant/grant/providers/ClientAuthentication" "method" "Ljava/lang/String;" (.ref mP)) (hTB : Str Z Z.heap mB tB bB own_csB) (hTP : Str Z Z.heap mP tP bP own_csP) {eV : Addr} {kV : ClassId} (hSV : Sta Z Z.heap "com/example/grant/grant/providers/ClientAuthentication" "$VALUES" "[Lcom/example/grant/grant/providers/ClientAuthentication;" (.ref eV)) (hEV : Exa Z Z.heap eV "[Lcom/example/grant/grant/providers/ClientAuthentication;") (hVV : Arv Z Z.heap eV kV (.object "com/example/grant/grant/providers/ClientAuthentication") (2 : Int32) [(.ref eB), (.ref eP)] .null) {h : Heap} (hO : Old Z n0 h) (x : Addr) (c0 : Addr) (E_x : Exa Z h x "java/lang/String") (g_x : n0 ≤ x) (F_v : Fld Z h x "java/lang/String" "value" "[B" .null) (F_c : Fld Z h x "java/lang/String" "coder" "B" (.int (0 : Int32))) :
    Con [] false l Z own_EL n0 [x] (⟨"java/lang/String", "<init>", "([CIILjava/lang/Void;)V"⟩ : MethodName) jdk_42_method_149_code 6 none ({ frames := 1, cells := 4, slots := 8, locals := 12 } : Room) #[(.ref x), (.ref c0), (.int (0 : Int32)), (.int (0 : Int32)), .null] h (fun v h' => ∃ (t : Addr) (kb : ClassId), v = none ∧ Keep h h' [x] ∧ Str Z h' x t kb ([] : List Int32)) := by
  refine Con.intro (Ls := #[.val (.ref x), .val (.ref c0), .val (.int (0 : Int32)), .val (.int (0 : Int32)), .val .null, .unset]) pn3 hEL hO (fun m => by first | rfl | (simp [entryFrame, mkF, argsToLocals, Value.category]; done)) fun C vm T hl X hs => ?_
  have X : On C ({ frames := 1, cells := 4, slots := 8, locals := 12 } : Room) "java/lang/String" jdk_42_method_149_code 6 none "<init>" false Z a0 own_EL n0 vm T h 0 0 := X
  have sf_x := hs x (List.mem_of_getElem? (i := 0) rfl)
  refine X.aload_n i3_0 rfl rfl ?_
  refine X.initO i3_1 (hw _ wd_15) (hw _ wd_16) (hw _ wd_17) rfl (by decide) (W := 0) rfl (by decide) fun T1 X1 => ?_
  refine X1.iload_n i3_4 rfl ?_
  refine X1.ifN i3_5 (by decide) ?_
  refine X1.aload_n i3_8 rfl rfl ?_
  refine X1.ldcS rfl (cs := ([] : List Int32)) i3_9 (hw _ wd_87) (own_wS hw) (List.mem_of_getElem? (i := 2) rfl) lt0_a lt0_b lt0_c (Nat.le_of_ble_eq_true rfl) (nn := 0) (Nat.le_of_eq lt0_d) (by decide) (k' := 2) rfl (n' := 4) rfl (by decide) (by decide) fun vm2 T2 h2 a2 t2 b2 X2 E2 r2 S2 ne2 => ?_
  have Sf3 := (r2).safe (E_x).lt sf_x
  refine X2.getfield i3_11 (hw _ wd_32) Via.refl S2.2.1 fun T4 X4 => ?_
  have F5 := (F_v.ext E2)
  have E6 := (E_x.ext E2)
  refine X4.putfield i3_14 (hw _ wd_32) Via.refl F5 E6 (Or.inr ⟨(hw _ wd_33), rfl, rfl⟩) (hw _ wd_6) (ty := (.array .byte)) (by decide) rfl rfl g_x Sf3 fun T7 h7 X7 W7 => ?_
  refine X7.aload_n i3_17 rfl rfl ?_
  refine X7.ldcS rfl (cs := ([] : List Int32)) i3_18 (hw _ wd_87) (own_wS hw) (List.mem_of_getElem? (i := 2) rfl) lt0_a lt0_b lt0_c (Nat.le_of_ble_eq_true rfl) (nn := 0) (Nat.le_of_eq lt0_d) (by decide) (k' := 4) rfl (n' := 8) rfl (by decide) (by decide) fun vm8 T8 h8 a8 t8 b8 X8 E8 r8 S8 ne8 => ?_
  refine X8.getfield i3_20 (hw _ wd_30) Via.refl S8.2.2.1 fun T9 X9 => ?_
  have F10 := (((F_c.ext E2).other W7 (Or.inr (slot_ne (Or.inr (hw _ wd_31)) (Or.inr (hw _ wd_33)) (by decide) (t := .byte) (t' := (.array .byte)) (by decide) (by decide)))).ext E8)
  have E11 := ((E6.wr W7).ext E8)
  have Sf13 := (((CHr.wr W7 Sf3 X4.chv)).trans r8).safe (E6).lt Sf3
  refine X9.putfield i3_23 (hw _ wd_30) Via.refl F10 E11 (Or.inr ⟨(hw _ wd_31), rfl, rfl⟩) (hw _ wd_6) (ty := .byte) (by decide) rfl rfl g_x Sf13 fun T12 h12 X12 W12 => ?_
  have E14 := (E11.wr W12)
  have F15 := (((F5.same W7).ext E8).other W12 (Or.inr (slot_ne (Or.inr (hw _ wd_33)) (Or.inr (hw _ wd_31)) (by decide) (t := (.array .byte)) (t' := .byte) (by decide) (by decide))))
  have V16 := (((S2.2.2.2.1.other W7 (Ne.symm (ne2 x Sf3).2)).ext E8).other W12 (Ne.symm (ne2 x Sf3).2))
  exact X12.ret i3_26 rfl (by decide) (by decide) ⟨t2, b2, rfl, (((((Keep.refl _ [x]).ext E2).wr W7 (Or.inl (List.mem_of_getElem? (i := 0) rfl))).ext E8).wr W12 (Or.inl (List.mem_of_getElem? (i := 0) rfl))), ⟨E14, F15, (F10.same W12), V16, own_all0⟩⟩
set_option maxRecDepth 65536 in
set_option maxHeartbeats 40000000 in
theorem c_se1 (l : Launch) {Z : State} {a0 : Array Value} {n0 : Nat} (hw : ∀ d ∈ tables_1, d.before a0 Z = true) (hEL : EW Z a0 own_EL) {zc : Int32} (hcs : Sta Z Z.heap "java/lang/String" "COMPACT_STRINGS" "Z" (.int zc)) (hcz : ¬ zc = 0) {eB eP mB tB mP tP : Addr} {bB bP : ClassId} (hSB : Sta Z Z.heap "com/example/grant/grant/providers/ClientAuthentication" "BASIC" "Lcom/example/grant/grant/providers/ClientAuthentication;" (.ref eB)) (hSP : Sta Z Z.heap "com/example/grant/grant/providers/ClientAuthentication" "POST" "Lcom/example/grant/grant/providers/ClientAuthentication;" (.ref eP)) (hFB : Fld Z Z.heap eB "com/example/grant/grant/providers/ClientAuthentication" "method" "Ljava/lang/String;" (.ref mB)) (hFP : Fld Z Z.heap eP "com/example/grant/grant/providers/ClientAuthentication" "method" "Ljava/lang/String;" (.ref mP)) (hTB : Str Z Z.heap mB tB bB own_csB) (hTP : Str Z Z.heap mP tP bP own_csP) {eV : Addr} {kV : ClassId} (hSV : Sta Z Z.heap "com/example/grant/grant/providers/ClientAuthentication" "$VALUES" "[Lcom/example/grant/grant/providers/ClientAuthentication;" (.ref eV)) (hEV : Exa Z Z.heap eV "[Lcom/example/grant/grant/providers/ClientAuthentication;") (hVV : Arv Z Z.heap eV kV (.object "com/example/grant/grant/providers/ClientAuthentication") (2 : Int32) [(.ref eB), (.ref eP)] .null) {h : Heap} (hO : Old Z n0 h) (x : Addr) (c0 : Addr) (kc : ClassId) (d0 : Value) (E_x : Exa Z h x "java/lang/String") (g_x : n0 ≤ x) (F_v : Fld Z h x "java/lang/String" "value" "[B" .null) (F_c : Fld Z h x "java/lang/String" "coder" "B" (.int (0 : Int32))) (V_c : Arv Z h c0 kc .char (0 : Int32) [] d0) :
    Con [] false l Z own_EL n0 [x] (⟨"java/lang/String", "<init>", "([C)V"⟩ : MethodName) jdk_42_method_3_code 2 none ({ frames := 2, cells := 4, slots := 8, locals := 29 } : Room) #[(.ref x), (.ref c0)] h (fun v h' => ∃ (t : Addr) (kb : ClassId), v = none ∧ Keep h h' [x] ∧ Str Z h' x t kb ([] : List Int32)) := by
  refine Con.intro (Ls := #[.val (.ref x), .val (.ref c0)]) pn4 hEL hO (fun m => by first | rfl | (simp [entryFrame, mkF, argsToLocals, Value.category]; done)) fun C vm T hl X hs => ?_
  have X : On C ({ frames := 2, cells := 4, slots := 8, locals := 29 } : Room) "java/lang/String" jdk_42_method_3_code 2 none "<init>" false Z a0 own_EL n0 vm T h 0 0 := X
  have sf_x := hs x (List.mem_of_getElem? (i := 0) rfl)
  refine X.aload_n i4_0 rfl rfl ?_
  refine X.aload_n i4_1 rfl rfl ?_
  refine X.iconst i4_2 (z := (0 : Int32)) rfl ?_
  refine X.aload_n i4_3 rfl rfl ?_
  refine X.arraylength i4_4 V_c ?_
  refine X.aconst_null i4_5 ?_
  refine X.callI hl (argsL := [(.ref c0), (.int (0 : Int32)), (.int (0 : Int32)), .null]) (a := x) i4_6 (c_se4 l hw hEL hcs hcz hSB hSP hFB hFP hTB hTP hSV hEV hVV X.old x c0 E_x g_x F_v F_c) (hw _ wd_11) (hw _ wd_12) (hw _ wd_7) (hw _ wd_14) rfl (by decide) (sf_cons ⟨sf_x, (E_x).lt⟩ sf_nil) pd2 rfl rfl rfl (W := 0) rfl (by decide) (by decide) (k' := 4) rfl (n' := 8) rfl (by decide) (by decide) fun vm1 T1 h1 v1 X1 r1 Q1 => ?_
  obtain ⟨t_1, kb_1, rfl, q1_0, q1_1⟩ := Q1
  show Go _ _ _ _ _ _ _ T1 9 #[.val (.ref x), .val (.ref c0)] []
  exact X1.ret i4_9 rfl (by decide) (by decide) ⟨t_1, kb_1, rfl, ((Keep.refl _ [x]).trans q1_0 (allS (Or.inl (List.mem_of_getElem? (i := 0) rfl)) all0)), q1_1⟩
set_option maxRecDepth 65536 in
set_option maxHeartbeats 40000000 in
theorem c_bn (l : Launch) {Z : State} {a0 : Array Value} {n0 : Nat} (hw : ∀ d ∈ tables_1, d.before a0 Z = true) (hEL : EW Z a0 own_EL) {zc : Int32} (hcs : Sta Z Z.heap "java/lang/String" "COMPACT_STRINGS" "Z" (.int zc)) (hcz : ¬ zc = 0) {eB eP mB tB mP tP : Addr} {bB bP : ClassId} (hSB : Sta Z Z.heap "com/example/grant/grant/providers/ClientAuthentication" "BASIC" "Lcom/example/grant/grant/providers/ClientAuthentication;" (.ref eB)) (hSP : Sta Z Z.heap "com/example/grant/grant/providers/ClientAuthentication" "POST" "Lcom/example/grant/grant/providers/ClientAuthentication;" (.ref eP)) (hFB : Fld Z Z.heap eB "com/example/grant/grant/providers/ClientAuthentication" "method" "Ljava/lang/String;" (.ref mB)) (hFP : Fld Z Z.heap eP "com/example/grant/grant/providers/ClientAuthentication" "method" "Ljava/lang/String;" (.ref mP)) (hTB : Str Z Z.heap mB tB bB own_csB) (hTP : Str Z Z.heap mP tP bP own_csP) {eV : Addr} {kV : ClassId} (hSV : Sta Z Z.heap "com/example/grant/grant/providers/ClientAuthentication" "$VALUES" "[Lcom/example/grant/grant/providers/ClientAuthentication;" (.ref eV)) (hEV : Exa Z Z.heap eV "[Lcom/example/grant/grant/providers/ClientAuthentication;") (hVV : Arv Z Z.heap eV kV (.object "com/example/grant/grant/providers/ClientAuthentication") (2 : Int32) [(.ref eB), (.ref eP)] .null) {h : Heap} (hO : Old Z n0 h)   :
    Con [] false l Z own_EL n0 [] (⟨"com/example/grant/grant/providers/ClientAuthenticationNamedPinLaw", "basicName", "()[C"⟩ : MethodName) method_2_code 0 (some (.array .char)) ({ frames := 0, cells := 1, slots := 19, locals := 0 } : Room) #[] h (fun v h' => ∃ (r : Addr) (kc : ClassId), v = some (.ref r) ∧ Ext h h' ∧ h.size ≤ r ∧ Arv Z h' r kc .char (19 : Int32) [(.int (99 : Int32)), (.int (108 : Int32)), (.int (105 : Int32)), (.int (101 : Int32)), (.int (110 : Int32)), (.int (116 : Int32)), (.int (95 : Int32)), (.int (115 : Int32)), (.int (101 : Int32)), (.int (99 : Int32)), (.int (114 : Int32)), (.int (101 : Int32)), (.int (116 : Int32)), (.int (95 : Int32)), (.int (98 : Int32)), (.int (97 : Int32)), (.int (115 : Int32)), (.int (105 : Int32)), (.int (99 : Int32))] (.int (0 : Int32))) := by
  refine Con.intro (Ls := #[]) pn5 hEL hO (fun m => by first | rfl | (simp [entryFrame, mkF, argsToLocals, Value.category]; done)) fun C vm T hl X hs => ?_
  have X : On C ({ frames := 0, cells := 1, slots := 19, locals := 0 } : Room) "com/example/grant/grant/providers/ClientAuthenticationNamedPinLaw" method_2_code 0 (some (.array .char)) "basicName" false Z a0 own_EL n0 vm T h 0 0 := X
  refine X.bipush i5_0 (z := (19 : Int32)) rfl ?_
  refine X.newarray i5_2 (ty := .char) rfl (hw _ wd_4) (by decide) (cap := 19) (by decide) (by decide) (k' := 1) rfl (n' := 19) rfl (by decide) (by decide) fun T1 h1 a1 c1 X1 E1 z1 g1 V1 Sf1 => ?_
  have V1 : Arv Z h1 a1 c1 .char (19 : Int32) [(.int (0 : Int32)), (.int (0 : Int32)), (.int (0 : Int32)), (.int (0 : Int32)), (.int (0 : Int32)), (.int (0 : Int32)), (.int (0 : Int32)), (.int (0 : Int32)), (.int (0 : Int32)), (.int (0 : Int32)), (.int (0 : Int32)), (.int (0 : Int32)), (.int (0 : Int32)), (.int (0 : Int32)), (.int (0 : Int32)), (.int (0 : Int32)), (.int (0 : Int32)), (.int (0 : Int32)), (.int (0 : Int32))] (.int (0 : Int32)) := V1.pad (pad_rep [] (.int (0 : Int32)) 19)
  refine X1.dup i5_4 rfl ?_
  refine X1.iconst i5_5 (z := (0 : Int32)) rfl ?_
  refine X1.bipush i5_6 (z := (99 : Int32)) rfl ?_
  refine X1.castore i5_8 V1 ⟨by decide, by decide⟩ (i := 0) rfl (Nat.le_of_ble_eq_true rfl) (y := (99 : Int32)) rfl g1 fun T2 h2 X2 W2 V2 => ?_
  have V2 : Arv Z h2 a1 c1 .char (19 : Int32) [(.int (99 : Int32)), (.int (0 : Int32)), (.int (0 : Int32)), (.int (0 : Int32)), (.int (0 : Int32)), (.int (0 : Int32)), (.int (0 : Int32)), (.int (0 : Int32)), (.int (0 : Int32)), (.int (0 : Int32)), (.int (0 : Int32)), (.int (0 : Int32)), (.int (0 : Int32)), (.int (0 : Int32)), (.int (0 : Int32)), (.int (0 : Int32)), (.int (0 : Int32)), (.int (0 : Int32)), (.int (0 : Int32))] (.int (0 : Int32)) := V2
  refine X2.dup i5_9 rfl ?_
  refine X2.iconst i5_10 (z := (1 : Int32)) rfl ?_
  refine X2.bipush i5_11 (z := (108 : Int32)) rfl ?_
  refine X2.castore i5_13 V2 ⟨by decide, by decide⟩ (i := 1) rfl (Nat.le_of_ble_eq_true rfl) (y := (108 : Int32)) rfl g1 fun T3 h3 X3 W3 V3 => ?_
  have V3 : Arv Z h3 a1 c1 .char (19 : Int32) [(.int (99 : Int32)), (.int (108 : Int32)), (.int (0 : Int32)), (.int (0 : Int32)), (.int (0 : Int32)), (.int (0 : Int32)), (.int (0 : Int32)), (.int (0 : Int32)), (.int (0 : Int32)), (.int (0 : Int32)), (.int (0 : Int32)), (.int (0 : Int32)), (.int (0 : Int32)), (.int (0 : Int32)), (.int (0 : Int32)), (.int (0 : Int32)), (.int (0 : Int32)), (.int (0 : Int32)), (.int (0 : Int32))] (.int (0 : Int32)) := V3
  refine X3.dup i5_14 rfl ?_
  refine X3.iconst i5_15 (z := (2 : Int32)) rfl ?_
  refine X3.bipush i5_16 (z := (105 : Int32)) rfl ?_
  refine X3.castore i5_18 V3 ⟨by decide, by decide⟩ (i := 2) rfl (Nat.le_of_ble_eq_true rfl) (y := (105 : Int32)) rfl g1 fun T4 h4 X4 W4 V4 => ?_
  have V4 : Arv Z h4 a1 c1 .char (19 : Int32) [(.int (99 : Int32)), (.int (108 : Int32)), (.int (105 : Int32)), (.int (0 : Int32)), (.int (0 : Int32)), (.int (0 : Int32)), (.int (0 : Int32)), (.int (0 : Int32)), (.int (0 : Int32)), (.int (0 : Int32)), (.int (0 : Int32)), (.int (0 : Int32)), (.int (0 : Int32)), (.int (0 : Int32)), (.int (0 : Int32)), (.int (0 : Int32)), (.int (0 : Int32)), (.int (0 : Int32)), (.int (0 : Int32))] (.int (0 : Int32)) := V4
  refine X4.dup i5_19 rfl ?_
  refine X4.iconst i5_20 (z := (3 : Int32)) rfl ?_
  refine X4.bipush i5_21 (z := (101 : Int32)) rfl ?_
  refine X4.castore i5_23 V4 ⟨by decide, by decide⟩ (i := 3) rfl (Nat.le_of_ble_eq_true rfl) (y := (101 : Int32)) rfl g1 fun T5 h5 X5 W5 V5 => ?_
  have V5 : Arv Z h5 a1 c1 .char (19 : Int32) [(.int (99 : Int32)), (.int (108 : Int32)), (.int (105 : Int32)), (.int (101 : Int32)), (.int (0 : Int32)), (.int (0 : Int32)), (.int (0 : Int32)), (.int (0 : Int32)), (.int (0 : Int32)), (.int (0 : Int32)), (.int (0 : Int32)), (.int (0 : Int32)), (.int (0 : Int32)), (.int (0 : Int32)), (.int (0 : Int32)), (.int (0 : Int32)), (.int (0 : Int32)), (.int (0 : Int32)), (.int (0 : Int32))] (.int (0 : Int32)) := V5
  refine X5.dup i5_24 rfl ?_
  refine X5.iconst i5_25 (z := (4 : Int32)) rfl ?_
  refine X5.bipush i5_26 (z := (110 : Int32)) rfl ?_
  refine X5.castore i5_28 V5 ⟨by decide, by decide⟩ (i := 4) rfl (Nat.le_of_ble_eq_true rfl) (y := (110 : Int32)) rfl g1 fun T6 h6 X6 W6 V6 => ?_
  have V6 : Arv Z h6 a1 c1 .char (19 : Int32) [(.int (99 : Int32)), (.int (108 : Int32)), (.int (105 : Int32)), (.int (101 : Int32)), (.int (110 : Int32)), (.int (0 : Int32)), (.int (0 : Int32)), (.int (0 : Int32)), (.int (0 : Int32)), (.int (0 : Int32)), (.int (0 : Int32)), (.int (0 : Int32)), (.int (0 : Int32)), (.int (0 : Int32)), (.int (0 : Int32)), (.int (0 : Int32)), (.int (0 : Int32)), (.int (0 : Int32)), (.int (0 : Int32))] (.int (0 : Int32)) := V6
  refine X6.dup i5_29 rfl ?_
  refine X6.iconst i5_30 (z := (5 : Int32)) rfl ?_
  refine X6.bipush i5_31 (z := (116 : Int32)) rfl ?_
  refine X6.castore i5_33 V6 ⟨by decide, by decide⟩ (i := 5) rfl (Nat.le_of_ble_eq_true rfl) (y := (116 : Int32)) rfl g1 fun T7 h7 X7 W7 V7 => ?_
  have V7 : Arv Z h7 a1 c1 .char (19 : Int32) [(.int (99 : Int32)), (.int (108 : Int32)), (.int (105 : Int32)), (.int (101 : Int32)), (.int (110 : Int32)), (.int (116 : Int32)), (.int (0 : Int32)), (.int (0 : Int32)), (.int (0 : Int32)), (.int (0 : Int32)), (.int (0 : Int32)), (.int (0 : Int32)), (.int (0 : Int32)), (.int (0 : Int32)), (.int (0 : Int32)), (.int (0 : Int32)), (.int (0 : Int32)), (.int (0 : Int32)), (.int (0 : Int32))] (.int (0 : Int32)) := V7
  refine X7.dup i5_34 rfl ?_
  refine X7.bipush i5_35 (z := (6 : Int32)) rfl ?_
  refine X7.bipush i5_37 (z := (95 : Int32)) rfl ?_
  refine X7.castore i5_39 V7 ⟨by decide, by decide⟩ (i := 6) rfl (Nat.le_of_ble_eq_true rfl) (y := (95 : Int32)) rfl g1 fun T8 h8 X8 W8 V8 => ?_
  have V8 : Arv Z h8 a1 c1 .char (19 : Int32) [(.int (99 : Int32)), (.int (108 : Int32)), (.int (105 : Int32)), (.int (101 : Int32)), (.int (110 : Int32)), (.int (116 : Int32)), (.int (95 : Int32)), (.int (0 : Int32)), (.int (0 : Int32)), (.int (0 : Int32)), (.int (0 : Int32)), (.int (0 : Int32)), (.int (0 : Int32)), (.int (0 : Int32)), (.int (0 : Int32)), (.int (0 : Int32)), (.int (0 : Int32)), (.int (0 : Int32)), (.int (0 : Int32))] (.int (0 : Int32)) := V8
  refine X8.dup i5_40 rfl ?_
  refine X8.bipush i5_41 (z := (7 : Int32)) rfl ?_
  refine X8.bipush i5_43 (z := (115 : Int32)) rfl ?_
  refine X8.castore i5_45 V8 ⟨by decide, by decide⟩ (i := 7) rfl (Nat.le_of_ble_eq_true rfl) (y := (115 : Int32)) rfl g1 fun T9 h9 X9 W9 V9 => ?_
  have V9 : Arv Z h9 a1 c1 .char (19 : Int32) [(.int (99 : Int32)), (.int (108 : Int32)), (.int (105 : Int32)), (.int (101 : Int32)), (.int (110 : Int32)), (.int (116 : Int32)), (.int (95 : Int32)), (.int (115 : Int32)), (.int (0 : Int32)), (.int (0 : Int32)), (.int (0 : Int32)), (.int (0 : Int32)), (.int (0 : Int32)), (.int (0 : Int32)), (.int (0 : Int32)), (.int (0 : Int32)), (.int (0 : Int32)), (.int (0 : Int32)), (.int (0 : Int32))] (.int (0 : Int32)) := V9
  refine X9.dup i5_46 rfl ?_
  refine X9.bipush i5_47 (z := (8 : Int32)) rfl ?_
  refine X9.bipush i5_49 (z := (101 : Int32)) rfl ?_
  refine X9.castore i5_51 V9 ⟨by decide, by decide⟩ (i := 8) rfl (Nat.le_of_ble_eq_true rfl) (y := (101 : Int32)) rfl g1 fun T10 h10 X10 W10 V10 => ?_
  have V10 : Arv Z h10 a1 c1 .char (19 : Int32) [(.int (99 : Int32)), (.int (108 : Int32)), (.int (105 : Int32)), (.int (101 : Int32)), (.int (110 : Int32)), (.int (116 : Int32)), (.int (95 : Int32)), (.int (115 : Int32)), (.int (101 : Int32)), (.int (0 : Int32)), (.int (0 : Int32)), (.int (0 : Int32)), (.int (0 : Int32)), (.int (0 : Int32)), (.int (0 : Int32)), (.int (0 : Int32)), (.int (0 : Int32)), (.int (0 : Int32)), (.int (0 : Int32))] (.int (0 : Int32)) := V10
  refine X10.dup i5_52 rfl ?_
  refine X10.bipush i5_53 (z := (9 : Int32)) rfl ?_
  refine X10.bipush i5_55 (z := (99 : Int32)) rfl ?_
  refine X10.castore i5_57 V10 ⟨by decide, by decide⟩ (i := 9) rfl (Nat.le_of_ble_eq_true rfl) (y := (99 : Int32)) rfl g1 fun T11 h11 X11 W11 V11 => ?_
  have V11 : Arv Z h11 a1 c1 .char (19 : Int32) [(.int (99 : Int32)), (.int (108 : Int32)), (.int (105 : Int32)), (.int (101 : Int32)), (.int (110 : Int32)), (.int (116 : Int32)), (.int (95 : Int32)), (.int (115 : Int32)), (.int (101 : Int32)), (.int (99 : Int32)), (.int (0 : Int32)), (.int (0 : Int32)), (.int (0 : Int32)), (.int (0 : Int32)), (.int (0 : Int32)), (.int (0 : Int32)), (.int (0 : Int32)), (.int (0 : Int32)), (.int (0 : Int32))] (.int (0 : Int32)) := V11
  refine X11.dup i5_58 rfl ?_
  refine X11.bipush i5_59 (z := (10 : Int32)) rfl ?_
  refine X11.bipush i5_61 (z := (114 : Int32)) rfl ?_
  refine X11.castore i5_63 V11 ⟨by decide, by decide⟩ (i := 10) rfl (Nat.le_of_ble_eq_true rfl) (y := (114 : Int32)) rfl g1 fun T12 h12 X12 W12 V12 => ?_
  have V12 : Arv Z h12 a1 c1 .char (19 : Int32) [(.int (99 : Int32)), (.int (108 : Int32)), (.int (105 : Int32)), (.int (101 : Int32)), (.int (110 : Int32)), (.int (116 : Int32)), (.int (95 : Int32)), (.int (115 : Int32)), (.int (101 : Int32)), (.int (99 : Int32)), (.int (114 : Int32)), (.int (0 : Int32)), (.int (0 : Int32)), (.int (0 : Int32)), (.int (0 : Int32)), (.int (0 : Int32)), (.int (0 : Int32)), (.int (0 : Int32)), (.int (0 : Int32))] (.int (0 : Int32)) := V12
  refine X12.dup i5_64 rfl ?_
  refine X12.bipush i5_65 (z := (11 : Int32)) rfl ?_
  refine X12.bipush i5_67 (z := (101 : Int32)) rfl ?_
  refine X12.castore i5_69 V12 ⟨by decide, by decide⟩ (i := 11) rfl (Nat.le_of_ble_eq_true rfl) (y := (101 : Int32)) rfl g1 fun T13 h13 X13 W13 V13 => ?_
  have V13 : Arv Z h13 a1 c1 .char (19 : Int32) [(.int (99 : Int32)), (.int (108 : Int32)), (.int (105 : Int32)), (.int (101 : Int32)), (.int (110 : Int32)), (.int (116 : Int32)), (.int (95 : Int32)), (.int (115 : Int32)), (.int (101 : Int32)), (.int (99 : Int32)), (.int (114 : Int32)), (.int (101 : Int32)), (.int (0 : Int32)), (.int (0 : Int32)), (.int (0 : Int32)), (.int (0 : Int32)), (.int (0 : Int32)), (.int (0 : Int32)), (.int (0 : Int32))] (.int (0 : Int32)) := V13
  refine X13.dup i5_70 rfl ?_
  refine X13.bipush i5_71 (z := (12 : Int32)) rfl ?_
  refine X13.bipush i5_73 (z := (116 : Int32)) rfl ?_
  refine X13.castore i5_75 V13 ⟨by decide, by decide⟩ (i := 12) rfl (Nat.le_of_ble_eq_true rfl) (y := (116 : Int32)) rfl g1 fun T14 h14 X14 W14 V14 => ?_
  have V14 : Arv Z h14 a1 c1 .char (19 : Int32) [(.int (99 : Int32)), (.int (108 : Int32)), (.int (105 : Int32)), (.int (101 : Int32)), (.int (110 : Int32)), (.int (116 : Int32)), (.int (95 : Int32)), (.int (115 : Int32)), (.int (101 : Int32)), (.int (99 : Int32)), (.int (114 : Int32)), (.int (101 : Int32)), (.int (116 : Int32)), (.int (0 : Int32)), (.int (0 : Int32)), (.int (0 : Int32)), (.int (0 : Int32)), (.int (0 : Int32)), (.int (0 : Int32))] (.int (0 : Int32)) := V14
  refine X14.dup i5_76 rfl ?_
  refine X14.bipush i5_77 (z := (13 : Int32)) rfl ?_
  refine X14.bipush i5_79 (z := (95 : Int32)) rfl ?_
  refine X14.castore i5_81 V14 ⟨by decide, by decide⟩ (i := 13) rfl (Nat.le_of_ble_eq_true rfl) (y := (95 : Int32)) rfl g1 fun T15 h15 X15 W15 V15 => ?_
  have V15 : Arv Z h15 a1 c1 .char (19 : Int32) [(.int (99 : Int32)), (.int (108 : Int32)), (.int (105 : Int32)), (.int (101 : Int32)), (.int (110 : Int32)), (.int (116 : Int32)), (.int (95 : Int32)), (.int (115 : Int32)), (.int (101 : Int32)), (.int (99 : Int32)), (.int (114 : Int32)), (.int (101 : Int32)), (.int (116 : Int32)), (.int (95 : Int32)), (.int (0 : Int32)), (.int (0 : Int32)), (.int (0 : Int32)), (.int (0 : Int32)), (.int (0 : Int32))] (.int (0 : Int32)) := V15
  refine X15.dup i5_82 rfl ?_
  refine X15.bipush i5_83 (z := (14 : Int32)) rfl ?_
  refine X15.bipush i5_85 (z := (98 : Int32)) rfl ?_
  refine X15.castore i5_87 V15 ⟨by decide, by decide⟩ (i := 14) rfl (Nat.le_of_ble_eq_true rfl) (y := (98 : Int32)) rfl g1 fun T16 h16 X16 W16 V16 => ?_
  have V16 : Arv Z h16 a1 c1 .char (19 : Int32) [(.int (99 : Int32)), (.int (108 : Int32)), (.int (105 : Int32)), (.int (101 : Int32)), (.int (110 : Int32)), (.int (116 : Int32)), (.int (95 : Int32)), (.int (115 : Int32)), (.int (101 : Int32)), (.int (99 : Int32)), (.int (114 : Int32)), (.int (101 : Int32)), (.int (116 : Int32)), (.int (95 : Int32)), (.int (98 : Int32)), (.int (0 : Int32)), (.int (0 : Int32)), (.int (0 : Int32)), (.int (0 : Int32))] (.int (0 : Int32)) := V16
  refine X16.dup i5_88 rfl ?_
  refine X16.bipush i5_89 (z := (15 : Int32)) rfl ?_
  refine X16.bipush i5_91 (z := (97 : Int32)) rfl ?_
  refine X16.castore i5_93 V16 ⟨by decide, by decide⟩ (i := 15) rfl (Nat.le_of_ble_eq_true rfl) (y := (97 : Int32)) rfl g1 fun T17 h17 X17 W17 V17 => ?_
  have V17 : Arv Z h17 a1 c1 .char (19 : Int32) [(.int (99 : Int32)), (.int (108 : Int32)), (.int (105 : Int32)), (.int (101 : Int32)), (.int (110 : Int32)), (.int (116 : Int32)), (.int (95 : Int32)), (.int (115 : Int32)), (.int (101 : Int32)), (.int (99 : Int32)), (.int (114 : Int32)), (.int (101 : Int32)), (.int (116 : Int32)), (.int (95 : Int32)), (.int (98 : Int32)), (.int (97 : Int32)), (.int (0 : Int32)), (.int (0 : Int32)), (.int (0 : Int32))] (.int (0 : Int32)) := V17
  refine X17.dup i5_94 rfl ?_
  refine X17.bipush i5_95 (z := (16 : Int32)) rfl ?_
  refine X17.bipush i5_97 (z := (115 : Int32)) rfl ?_
  refine X17.castore i5_99 V17 ⟨by decide, by decide⟩ (i := 16) rfl (Nat.le_of_ble_eq_true rfl) (y := (115 : Int32)) rfl g1 fun T18 h18 X18 W18 V18 => ?_
  have V18 : Arv Z h18 a1 c1 .char (19 : Int32) [(.int (99 : Int32)), (.int (108 : Int32)), (.int (105 : Int32)), (.int (101 : Int32)), (.int (110 : Int32)), (.int (116 : Int32)), (.int (95 : Int32)), (.int (115 : Int32)), (.int (101 : Int32)), (.int (99 : Int32)), (.int (114 : Int32)), (.int (101 : Int32)), (.int (116 : Int32)), (.int (95 : Int32)), (.int (98 : Int32)), (.int (97 : Int32)), (.int (115 : Int32)), (.int (0 : Int32)), (.int (0 : Int32))] (.int (0 : Int32)) := V18
  refine X18.dup i5_100 rfl ?_
  refine X18.bipush i5_101 (z := (17 : Int32)) rfl ?_
  refine X18.bipush i5_103 (z := (105 : Int32)) rfl ?_
  refine X18.castore i5_105 V18 ⟨by decide, by decide⟩ (i := 17) rfl (Nat.le_of_ble_eq_true rfl) (y := (105 : Int32)) rfl g1 fun T19 h19 X19 W19 V19 => ?_
  have V19 : Arv Z h19 a1 c1 .char (19 : Int32) [(.int (99 : Int32)), (.int (108 : Int32)), (.int (105 : Int32)), (.int (101 : Int32)), (.int (110 : Int32)), (.int (116 : Int32)), (.int (95 : Int32)), (.int (115 : Int32)), (.int (101 : Int32)), (.int (99 : Int32)), (.int (114 : Int32)), (.int (101 : Int32)), (.int (116 : Int32)), (.int (95 : Int32)), (.int (98 : Int32)), (.int (97 : Int32)), (.int (115 : Int32)), (.int (105 : Int32)), (.int (0 : Int32))] (.int (0 : Int32)) := V19
  refine X19.dup i5_106 rfl ?_
  refine X19.bipush i5_107 (z := (18 : Int32)) rfl ?_
  refine X19.bipush i5_109 (z := (99 : Int32)) rfl ?_
  refine X19.castore i5_111 V19 ⟨by decide, by decide⟩ (i := 18) rfl (Nat.le_of_ble_eq_true rfl) (y := (99 : Int32)) rfl g1 fun T20 h20 X20 W20 V20 => ?_
  have V20 : Arv Z h20 a1 c1 .char (19 : Int32) [(.int (99 : Int32)), (.int (108 : Int32)), (.int (105 : Int32)), (.int (101 : Int32)), (.int (110 : Int32)), (.int (116 : Int32)), (.int (95 : Int32)), (.int (115 : Int32)), (.int (101 : Int32)), (.int (99 : Int32)), (.int (114 : Int32)), (.int (101 : Int32)), (.int (116 : Int32)), (.int (95 : Int32)), (.int (98 : Int32)), (.int (97 : Int32)), (.int (115 : Int32)), (.int (105 : Int32)), (.int (99 : Int32))] (.int (0 : Int32)) := V20
  exact X20.areturn i5_112 rfl rfl rfl (by decide) (by decide) ⟨a1, c1, rfl, (ext_wr (ext_wr (ext_wr (ext_wr (ext_wr (ext_wr (ext_wr (ext_wr (ext_wr (ext_wr (ext_wr (ext_wr (ext_wr (ext_wr (ext_wr (ext_wr (ext_wr (ext_wr (ext_wr E1 W2 (Nat.le_of_eq z1)) W3 (Nat.le_of_eq z1)) W4 (Nat.le_of_eq z1)) W5 (Nat.le_of_eq z1)) W6 (Nat.le_of_eq z1)) W7 (Nat.le_of_eq z1)) W8 (Nat.le_of_eq z1)) W9 (Nat.le_of_eq z1)) W10 (Nat.le_of_eq z1)) W11 (Nat.le_of_eq z1)) W12 (Nat.le_of_eq z1)) W13 (Nat.le_of_eq z1)) W14 (Nat.le_of_eq z1)) W15 (Nat.le_of_eq z1)) W16 (Nat.le_of_eq z1)) W17 (Nat.le_of_eq z1)) W18 (Nat.le_of_eq z1)) W19 (Nat.le_of_eq z1)) W20 (Nat.le_of_eq z1)), (Nat.le_of_eq z1), V20⟩
set_option maxRecDepth 65536 in
set_option maxHeartbeats 40000000 in
theorem c_pn (l : Launch) {Z : State} {a0 : Array Value} {n0 : Nat} (hw : ∀ d ∈ tables_1, d.before a0 Z = true) (hEL : EW Z a0 own_EL) {zc : Int32} (hcs : Sta Z Z.heap "java/lang/String" "COMPACT_STRINGS" "Z" (.int zc)) (hcz : ¬ zc = 0) {eB eP mB tB mP tP : Addr} {bB bP : ClassId} (hSB : Sta Z Z.heap "com/example/grant/grant/providers/ClientAuthentication" "BASIC" "Lcom/example/grant/grant/providers/ClientAuthentication;" (.ref eB)) (hSP : Sta Z Z.heap "com/example/grant/grant/providers/ClientAuthentication" "POST" "Lcom/example/grant/grant/providers/ClientAuthentication;" (.ref eP)) (hFB : Fld Z Z.heap eB "com/example/grant/grant/providers/ClientAuthentication" "method" "Ljava/lang/String;" (.ref mB)) (hFP : Fld Z Z.heap eP "com/example/grant/grant/providers/ClientAuthentication" "method" "Ljava/lang/String;" (.ref mP)) (hTB : Str Z Z.heap mB tB bB own_csB) (hTP : Str Z Z.heap mP tP bP own_csP) {eV : Addr} {kV : ClassId} (hSV : Sta Z Z.heap "com/example/grant/grant/providers/ClientAuthentication" "$VALUES" "[Lcom/example/grant/grant/providers/ClientAuthentication;" (.ref eV)) (hEV : Exa Z Z.heap eV "[Lcom/example/grant/grant/providers/ClientAuthentication;") (hVV : Arv Z Z.heap eV kV (.object "com/example/grant/grant/providers/ClientAuthentication") (2 : Int32) [(.ref eB), (.ref eP)] .null) {h : Heap} (hO : Old Z n0 h)   :
    Con [] false l Z own_EL n0 [] (⟨"com/example/grant/grant/providers/ClientAuthenticationNamedPinLaw", "postName", "()[C"⟩ : MethodName) method_3_code 0 (some (.array .char)) ({ frames := 0, cells := 1, slots := 18, locals := 0 } : Room) #[] h (fun v h' => ∃ (r : Addr) (kc : ClassId), v = some (.ref r) ∧ Ext h h' ∧ h.size ≤ r ∧ Arv Z h' r kc .char (18 : Int32) [(.int (99 : Int32)), (.int (108 : Int32)), (.int (105 : Int32)), (.int (101 : Int32)), (.int (110 : Int32)), (.int (116 : Int32)), (.int (95 : Int32)), (.int (115 : Int32)), (.int (101 : Int32)), (.int (99 : Int32)), (.int (114 : Int32)), (.int (101 : Int32)), (.int (116 : Int32)), (.int (95 : Int32)), (.int (112 : Int32)), (.int (111 : Int32)), (.int (115 : Int32)), (.int (116 : Int32))] (.int (0 : Int32))) := by
  refine Con.intro (Ls := #[]) pn6 hEL hO (fun m => by first | rfl | (simp [entryFrame, mkF, argsToLocals, Value.category]; done)) fun C vm T hl X hs => ?_
  have X : On C ({ frames := 0, cells := 1, slots := 18, locals := 0 } : Room) "com/example/grant/grant/providers/ClientAuthenticationNamedPinLaw" method_3_code 0 (some (.array .char)) "postName" false Z a0 own_EL n0 vm T h 0 0 := X
  refine X.bipush i6_0 (z := (18 : Int32)) rfl ?_
  refine X.newarray i6_2 (ty := .char) rfl (hw _ wd_4) (by decide) (cap := 18) (by decide) (by decide) (k' := 1) rfl (n' := 18) rfl (by decide) (by decide) fun T1 h1 a1 c1 X1 E1 z1 g1 V1 Sf1 => ?_
  have V1 : Arv Z h1 a1 c1 .char (18 : Int32) [(.int (0 : Int32)), (.int (0 : Int32)), (.int (0 : Int32)), (.int (0 : Int32)), (.int (0 : Int32)), (.int (0 : Int32)), (.int (0 : Int32)), (.int (0 : Int32)), (.int (0 : Int32)), (.int (0 : Int32)), (.int (0 : Int32)), (.int (0 : Int32)), (.int (0 : Int32)), (.int (0 : Int32)), (.int (0 : Int32)), (.int (0 : Int32)), (.int (0 : Int32)), (.int (0 : Int32))] (.int (0 : Int32)) := V1.pad (pad_rep [] (.int (0 : Int32)) 18)
  refine X1.dup i6_4 rfl ?_
  refine X1.iconst i6_5 (z := (0 : Int32)) rfl ?_
  refine X1.bipush i6_6 (z := (99 : Int32)) rfl ?_
  refine X1.castore i6_8 V1 ⟨by decide, by decide⟩ (i := 0) rfl (Nat.le_of_ble_eq_true rfl) (y := (99 : Int32)) rfl g1 fun T2 h2 X2 W2 V2 => ?_
  have V2 : Arv Z h2 a1 c1 .char (18 : Int32) [(.int (99 : Int32)), (.int (0 : Int32)), (.int (0 : Int32)), (.int (0 : Int32)), (.int (0 : Int32)), (.int (0 : Int32)), (.int (0 : Int32)), (.int (0 : Int32)), (.int (0 : Int32)), (.int (0 : Int32)), (.int (0 : Int32)), (.int (0 : Int32)), (.int (0 : Int32)), (.int (0 : Int32)), (.int (0 : Int32)), (.int (0 : Int32)), (.int (0 : Int32)), (.int (0 : Int32))] (.int (0 : Int32)) := V2
  refine X2.dup i6_9 rfl ?_
  refine X2.iconst i6_10 (z := (1 : Int32)) rfl ?_
  refine X2.bipush i6_11 (z := (108 : Int32)) rfl ?_
  refine X2.castore i6_13 V2 ⟨by decide, by decide⟩ (i := 1) rfl (Nat.le_of_ble_eq_true rfl) (y := (108 : Int32)) rfl g1 fun T3 h3 X3 W3 V3 => ?_
  have V3 : Arv Z h3 a1 c1 .char (18 : Int32) [(.int (99 : Int32)), (.int (108 : Int32)), (.int (0 : Int32)), (.int (0 : Int32)), (.int (0 : Int32)), (.int (0 : Int32)), (.int (0 : Int32)), (.int (0 : Int32)), (.int (0 : Int32)), (.int (0 : Int32)), (.int (0 : Int32)), (.int (0 : Int32)), (.int (0 : Int32)), (.int (0 : Int32)), (.int (0 : Int32)), (.int (0 : Int32)), (.int (0 : Int32)), (.int (0 : Int32))] (.int (0 : Int32)) := V3
  refine X3.dup i6_14 rfl ?_
  refine X3.iconst i6_15 (z := (2 : Int32)) rfl ?_
  refine X3.bipush i6_16 (z := (105 : Int32)) rfl ?_
  refine X3.castore i6_18 V3 ⟨by decide, by decide⟩ (i := 2) rfl (Nat.le_of_ble_eq_true rfl) (y := (105 : Int32)) rfl g1 fun T4 h4 X4 W4 V4 => ?_
  have V4 : Arv Z h4 a1 c1 .char (18 : Int32) [(.int (99 : Int32)), (.int (108 : Int32)), (.int (105 : Int32)), (.int (0 : Int32)), (.int (0 : Int32)), (.int (0 : Int32)), (.int (0 : Int32)), (.int (0 : Int32)), (.int (0 : Int32)), (.int (0 : Int32)), (.int (0 : Int32)), (.int (0 : Int32)), (.int (0 : Int32)), (.int (0 : Int32)), (.int (0 : Int32)), (.int (0 : Int32)), (.int (0 : Int32)), (.int (0 : Int32))] (.int (0 : Int32)) := V4
  refine X4.dup i6_19 rfl ?_
  refine X4.iconst i6_20 (z := (3 : Int32)) rfl ?_
  refine X4.bipush i6_21 (z := (101 : Int32)) rfl ?_
  refine X4.castore i6_23 V4 ⟨by decide, by decide⟩ (i := 3) rfl (Nat.le_of_ble_eq_true rfl) (y := (101 : Int32)) rfl g1 fun T5 h5 X5 W5 V5 => ?_
  have V5 : Arv Z h5 a1 c1 .char (18 : Int32) [(.int (99 : Int32)), (.int (108 : Int32)), (.int (105 : Int32)), (.int (101 : Int32)), (.int (0 : Int32)), (.int (0 : Int32)), (.int (0 : Int32)), (.int (0 : Int32)), (.int (0 : Int32)), (.int (0 : Int32)), (.int (0 : Int32)), (.int (0 : Int32)), (.int (0 : Int32)), (.int (0 : Int32)), (.int (0 : Int32)), (.int (0 : Int32)), (.int (0 : Int32)), (.int (0 : Int32))] (.int (0 : Int32)) := V5
  refine X5.dup i6_24 rfl ?_
  refine X5.iconst i6_25 (z := (4 : Int32)) rfl ?_
  refine X5.bipush i6_26 (z := (110 : Int32)) rfl ?_
  refine X5.castore i6_28 V5 ⟨by decide, by decide⟩ (i := 4) rfl (Nat.le_of_ble_eq_true rfl) (y := (110 : Int32)) rfl g1 fun T6 h6 X6 W6 V6 => ?_
  have V6 : Arv Z h6 a1 c1 .char (18 : Int32) [(.int (99 : Int32)), (.int (108 : Int32)), (.int (105 : Int32)), (.int (101 : Int32)), (.int (110 : Int32)), (.int (0 : Int32)), (.int (0 : Int32)), (.int (0 : Int32)), (.int (0 : Int32)), (.int (0 : Int32)), (.int (0 : Int32)), (.int (0 : Int32)), (.int (0 : Int32)), (.int (0 : Int32)), (.int (0 : Int32)), (.int (0 : Int32)), (.int (0 : Int32)), (.int (0 : Int32))] (.int (0 : Int32)) := V6
  refine X6.dup i6_29 rfl ?_
  refine X6.iconst i6_30 (z := (5 : Int32)) rfl ?_
  refine X6.bipush i6_31 (z := (116 : Int32)) rfl ?_
  refine X6.castore i6_33 V6 ⟨by decide, by decide⟩ (i := 5) rfl (Nat.le_of_ble_eq_true rfl) (y := (116 : Int32)) rfl g1 fun T7 h7 X7 W7 V7 => ?_
  have V7 : Arv Z h7 a1 c1 .char (18 : Int32) [(.int (99 : Int32)), (.int (108 : Int32)), (.int (105 : Int32)), (.int (101 : Int32)), (.int (110 : Int32)), (.int (116 : Int32)), (.int (0 : Int32)), (.int (0 : Int32)), (.int (0 : Int32)), (.int (0 : Int32)), (.int (0 : Int32)), (.int (0 : Int32)), (.int (0 : Int32)), (.int (0 : Int32)), (.int (0 : Int32)), (.int (0 : Int32)), (.int (0 : Int32)), (.int (0 : Int32))] (.int (0 : Int32)) := V7
  refine X7.dup i6_34 rfl ?_
  refine X7.bipush i6_35 (z := (6 : Int32)) rfl ?_
  refine X7.bipush i6_37 (z := (95 : Int32)) rfl ?_
  refine X7.castore i6_39 V7 ⟨by decide, by decide⟩ (i := 6) rfl (Nat.le_of_ble_eq_true rfl) (y := (95 : Int32)) rfl g1 fun T8 h8 X8 W8 V8 => ?_
  have V8 : Arv Z h8 a1 c1 .char (18 : Int32) [(.int (99 : Int32)), (.int (108 : Int32)), (.int (105 : Int32)), (.int (101 : Int32)), (.int (110 : Int32)), (.int (116 : Int32)), (.int (95 : Int32)), (.int (0 : Int32)), (.int (0 : Int32)), (.int (0 : Int32)), (.int (0 : Int32)), (.int (0 : Int32)), (.int (0 : Int32)), (.int (0 : Int32)), (.int (0 : Int32)), (.int (0 : Int32)), (.int (0 : Int32)), (.int (0 : Int32))] (.int (0 : Int32)) := V8
  refine X8.dup i6_40 rfl ?_
  refine X8.bipush i6_41 (z := (7 : Int32)) rfl ?_
  refine X8.bipush i6_43 (z := (115 : Int32)) rfl ?_
  refine X8.castore i6_45 V8 ⟨by decide, by decide⟩ (i := 7) rfl (Nat.le_of_ble_eq_true rfl) (y := (115 : Int32)) rfl g1 fun T9 h9 X9 W9 V9 => ?_
  have V9 : Arv Z h9 a1 c1 .char (18 : Int32) [(.int (99 : Int32)), (.int (108 : Int32)), (.int (105 : Int32)), (.int (101 : Int32)), (.int (110 : Int32)), (.int (116 : Int32)), (.int (95 : Int32)), (.int (115 : Int32)), (.int (0 : Int32)), (.int (0 : Int32)), (.int (0 : Int32)), (.int (0 : Int32)), (.int (0 : Int32)), (.int (0 : Int32)), (.int (0 : Int32)), (.int (0 : Int32)), (.int (0 : Int32)), (.int (0 : Int32))] (.int (0 : Int32)) := V9
  refine X9.dup i6_46 rfl ?_
  refine X9.bipush i6_47 (z := (8 : Int32)) rfl ?_
  refine X9.bipush i6_49 (z := (101 : Int32)) rfl ?_
  refine X9.castore i6_51 V9 ⟨by decide, by decide⟩ (i := 8) rfl (Nat.le_of_ble_eq_true rfl) (y := (101 : Int32)) rfl g1 fun T10 h10 X10 W10 V10 => ?_
  have V10 : Arv Z h10 a1 c1 .char (18 : Int32) [(.int (99 : Int32)), (.int (108 : Int32)), (.int (105 : Int32)), (.int (101 : Int32)), (.int (110 : Int32)), (.int (116 : Int32)), (.int (95 : Int32)), (.int (115 : Int32)), (.int (101 : Int32)), (.int (0 : Int32)), (.int (0 : Int32)), (.int (0 : Int32)), (.int (0 : Int32)), (.int (0 : Int32)), (.int (0 : Int32)), (.int (0 : Int32)), (.int (0 : Int32)), (.int (0 : Int32))] (.int (0 : Int32)) := V10
  refine X10.dup i6_52 rfl ?_
  refine X10.bipush i6_53 (z := (9 : Int32)) rfl ?_
  refine X10.bipush i6_55 (z := (99 : Int32)) rfl ?_
  refine X10.castore i6_57 V10 ⟨by decide, by decide⟩ (i := 9) rfl (Nat.le_of_ble_eq_true rfl) (y := (99 : Int32)) rfl g1 fun T11 h11 X11 W11 V11 => ?_
  have V11 : Arv Z h11 a1 c1 .char (18 : Int32) [(.int (99 : Int32)), (.int (108 : Int32)), (.int (105 : Int32)), (.int (101 : Int32)), (.int (110 : Int32)), (.int (116 : Int32)), (.int (95 : Int32)), (.int (115 : Int32)), (.int (101 : Int32)), (.int (99 : Int32)), (.int (0 : Int32)), (.int (0 : Int32)), (.int (0 : Int32)), (.int (0 : Int32)), (.int (0 : Int32)), (.int (0 : Int32)), (.int (0 : Int32)), (.int (0 : Int32))] (.int (0 : Int32)) := V11
  refine X11.dup i6_58 rfl ?_
  refine X11.bipush i6_59 (z := (10 : Int32)) rfl ?_
  refine X11.bipush i6_61 (z := (114 : Int32)) rfl ?_
  refine X11.castore i6_63 V11 ⟨by decide, by decide⟩ (i := 10) rfl (Nat.le_of_ble_eq_true rfl) (y := (114 : Int32)) rfl g1 fun T12 h12 X12 W12 V12 => ?_
  have V12 : Arv Z h12 a1 c1 .char (18 : Int32) [(.int (99 : Int32)), (.int (108 : Int32)), (.int (105 : Int32)), (.int (101 : Int32)), (.int (110 : Int32)), (.int (116 : Int32)), (.int (95 : Int32)), (.int (115 : Int32)), (.int (101 : Int32)), (.int (99 : Int32)), (.int (114 : Int32)), (.int (0 : Int32)), (.int (0 : Int32)), (.int (0 : Int32)), (.int (0 : Int32)), (.int (0 : Int32)), (.int (0 : Int32)), (.int (0 : Int32))] (.int (0 : Int32)) := V12
  refine X12.dup i6_64 rfl ?_
  refine X12.bipush i6_65 (z := (11 : Int32)) rfl ?_
  refine X12.bipush i6_67 (z := (101 : Int32)) rfl ?_
  refine X12.castore i6_69 V12 ⟨by decide, by decide⟩ (i := 11) rfl (Nat.le_of_ble_eq_true rfl) (y := (101 : Int32)) rfl g1 fun T13 h13 X13 W13 V13 => ?_
  have V13 : Arv Z h13 a1 c1 .char (18 : Int32) [(.int (99 : Int32)), (.int (108 : Int32)), (.int (105 : Int32)), (.int (101 : Int32)), (.int (110 : Int32)), (.int (116 : Int32)), (.int (95 : Int32)), (.int (115 : Int32)), (.int (101 : Int32)), (.int (99 : Int32)), (.int (114 : Int32)), (.int (101 : Int32)), (.int (0 : Int32)), (.int (0 : Int32)), (.int (0 : Int32)), (.int (0 : Int32)), (.int (0 : Int32)), (.int (0 : Int32))] (.int (0 : Int32)) := V13
  refine X13.dup i6_70 rfl ?_
  refine X13.bipush i6_71 (z := (12 : Int32)) rfl ?_
  refine X13.bipush i6_73 (z := (116 : Int32)) rfl ?_
  refine X13.castore i6_75 V13 ⟨by decide, by decide⟩ (i := 12) rfl (Nat.le_of_ble_eq_true rfl) (y := (116 : Int32)) rfl g1 fun T14 h14 X14 W14 V14 => ?_
  have V14 : Arv Z h14 a1 c1 .char (18 : Int32) [(.int (99 : Int32)), (.int (108 : Int32)), (.int (105 : Int32)), (.int (101 : Int32)), (.int (110 : Int32)), (.int (116 : Int32)), (.int (95 : Int32)), (.int (115 : Int32)), (.int (101 : Int32)), (.int (99 : Int32)), (.int (114 : Int32)), (.int (101 : Int32)), (.int (116 : Int32)), (.int (0 : Int32)), (.int (0 : Int32)), (.int (0 : Int32)), (.int (0 : Int32)), (.int (0 : Int32))] (.int (0 : Int32)) := V14
  refine X14.dup i6_76 rfl ?_
  refine X14.bipush i6_77 (z := (13 : Int32)) rfl ?_
  refine X14.bipush i6_79 (z := (95 : Int32)) rfl ?_
  refine X14.castore i6_81 V14 ⟨by decide, by decide⟩ (i := 13) rfl (Nat.le_of_ble_eq_true rfl) (y := (95 : Int32)) rfl g1 fun T15 h15 X15 W15 V15 => ?_
  have V15 : Arv Z h15 a1 c1 .char (18 : Int32) [(.int (99 : Int32)), (.int (108 : Int32)), (.int (105 : Int32)), (.int (101 : Int32)), (.int (110 : Int32)), (.int (116 : Int32)), (.int (95 : Int32)), (.int (115 : Int32)), (.int (101 : Int32)), (.int (99 : Int32)), (.int (114 : Int32)), (.int (101 : Int32)), (.int (116 : Int32)), (.int (95 : Int32)), (.int (0 : Int32)), (.int (0 : Int32)), (.int (0 : Int32)), (.int (0 : Int32))] (.int (0 : Int32)) := V15
  refine X15.dup i6_82 rfl ?_
  refine X15.bipush i6_83 (z := (14 : Int32)) rfl ?_
  refine X15.bipush i6_85 (z := (112 : Int32)) rfl ?_
  refine X15.castore i6_87 V15 ⟨by decide, by decide⟩ (i := 14) rfl (Nat.le_of_ble_eq_true rfl) (y := (112 : Int32)) rfl g1 fun T16 h16 X16 W16 V16 => ?_
  have V16 : Arv Z h16 a1 c1 .char (18 : Int32) [(.int (99 : Int32)), (.int (108 : Int32)), (.int (105 : Int32)), (.int (101 : Int32)), (.int (110 : Int32)), (.int (116 : Int32)), (.int (95 : Int32)), (.int (115 : Int32)), (.int (101 : Int32)), (.int (99 : Int32)), (.int (114 : Int32)), (.int (101 : Int32)), (.int (116 : Int32)), (.int (95 : Int32)), (.int (112 : Int32)), (.int (0 : Int32)), (.int (0 : Int32)), (.int (0 : Int32))] (.int (0 : Int32)) := V16
  refine X16.dup i6_88 rfl ?_
  refine X16.bipush i6_89 (z := (15 : Int32)) rfl ?_
  refine X16.bipush i6_91 (z := (111 : Int32)) rfl ?_
  refine X16.castore i6_93 V16 ⟨by decide, by decide⟩ (i := 15) rfl (Nat.le_of_ble_eq_true rfl) (y := (111 : Int32)) rfl g1 fun T17 h17 X17 W17 V17 => ?_
  have V17 : Arv Z h17 a1 c1 .char (18 : Int32) [(.int (99 : Int32)), (.int (108 : Int32)), (.int (105 : Int32)), (.int (101 : Int32)), (.int (110 : Int32)), (.int (116 : Int32)), (.int (95 : Int32)), (.int (115 : Int32)), (.int (101 : Int32)), (.int (99 : Int32)), (.int (114 : Int32)), (.int (101 : Int32)), (.int (116 : Int32)), (.int (95 : Int32)), (.int (112 : Int32)), (.int (111 : Int32)), (.int (0 : Int32)), (.int (0 : Int32))] (.int (0 : Int32)) := V17
  refine X17.dup i6_94 rfl ?_
  refine X17.bipush i6_95 (z := (16 : Int32)) rfl ?_
  refine X17.bipush i6_97 (z := (115 : Int32)) rfl ?_
  refine X17.castore i6_99 V17 ⟨by decide, by decide⟩ (i := 16) rfl (Nat.le_of_ble_eq_true rfl) (y := (115 : Int32)) rfl g1 fun T18 h18 X18 W18 V18 => ?_
  have V18 : Arv Z h18 a1 c1 .char (18 : Int32) [(.int (99 : Int32)), (.int (108 : Int32)), (.int (105 : Int32)), (.int (101 : Int32)), (.int (110 : Int32)), (.int (116 : Int32)), (.int (95 : Int32)), (.int (115 : Int32)), (.int (101 : Int32)), (.int (99 : Int32)), (.int (114 : Int32)), (.int (101 : Int32)), (.int (116 : Int32)), (.int (95 : Int32)), (.int (112 : Int32)), (.int (111 : Int32)), (.int (115 : Int32)), (.int (0 : Int32))] (.int (0 : Int32)) := V18
  refine X18.dup i6_100 rfl ?_
  refine X18.bipush i6_101 (z := (17 : Int32)) rfl ?_
  refine X18.bipush i6_103 (z := (116 : Int32)) rfl ?_
  refine X18.castore i6_105 V18 ⟨by decide, by decide⟩ (i := 17) rfl (Nat.le_of_ble_eq_true rfl) (y := (116 : Int32)) rfl g1 fun T19 h19 X19 W19 V19 => ?_
  have V19 : Arv Z h19 a1 c1 .char (18 : Int32) [(.int (99 : Int32)), (.int (108 : Int32)), (.int (105 : Int32)), (.int (101 : Int32)), (.int (110 : Int32)), (.int (116 : Int32)), (.int (95 : Int32)), (.int (115 : Int32)), (.int (101 : Int32)), (.int (99 : Int32)), (.int (114 : Int32)), (.int (101 : Int32)), (.int (116 : Int32)), (.int (95 : Int32)), (.int (112 : Int32)), (.int (111 : Int32)), (.int (115 : Int32)), (.int (116 : Int32))] (.int (0 : Int32)) := V19
  exact X19.areturn i6_106 rfl rfl rfl (by decide) (by decide) ⟨a1, c1, rfl, (ext_wr (ext_wr (ext_wr (ext_wr (ext_wr (ext_wr (ext_wr (ext_wr (ext_wr (ext_wr (ext_wr (ext_wr (ext_wr (ext_wr (ext_wr (ext_wr (ext_wr (ext_wr E1 W2 (Nat.le_of_eq z1)) W3 (Nat.le_of_eq z1)) W4 (Nat.le_of_eq z1)) W5 (Nat.le_of_eq z1)) W6 (Nat.le_of_eq z1)) W7 (Nat.le_of_eq z1)) W8 (Nat.le_of_eq z1)) W9 (Nat.le_of_eq z1)) W10 (Nat.le_of_eq z1)) W11 (Nat.le_of_eq z1)) W12 (Nat.le_of_eq z1)) W13 (Nat.le_of_eq z1)) W14 (Nat.le_of_eq z1)) W15 (Nat.le_of_eq z1)) W16 (Nat.le_of_eq z1)) W17 (Nat.le_of_eq z1)) W18 (Nat.le_of_eq z1)) W19 (Nat.le_of_eq z1)), (Nat.le_of_eq z1), V19⟩
set_option maxRecDepth 65536 in
set_option maxHeartbeats 40000000 in
theorem c_bp (l : Launch) {Z : State} {a0 : Array Value} {n0 : Nat} (hw : ∀ d ∈ tables_1, d.before a0 Z = true) (hEL : EW Z a0 own_EL) {zc : Int32} (hcs : Sta Z Z.heap "java/lang/String" "COMPACT_STRINGS" "Z" (.int zc)) (hcz : ¬ zc = 0) {eB eP mB tB mP tP : Addr} {bB bP : ClassId} (hSB : Sta Z Z.heap "com/example/grant/grant/providers/ClientAuthentication" "BASIC" "Lcom/example/grant/grant/providers/ClientAuthentication;" (.ref eB)) (hSP : Sta Z Z.heap "com/example/grant/grant/providers/ClientAuthentication" "POST" "Lcom/example/grant/grant/providers/ClientAuthentication;" (.ref eP)) (hFB : Fld Z Z.heap eB "com/example/grant/grant/providers/ClientAuthentication" "method" "Ljava/lang/String;" (.ref mB)) (hFP : Fld Z Z.heap eP "com/example/grant/grant/providers/ClientAuthentication" "method" "Ljava/lang/String;" (.ref mP)) (hTB : Str Z Z.heap mB tB bB own_csB) (hTP : Str Z Z.heap mP tP bP own_csP) {eV : Addr} {kV : ClassId} (hSV : Sta Z Z.heap "com/example/grant/grant/providers/ClientAuthentication" "$VALUES" "[Lcom/example/grant/grant/providers/ClientAuthentication;" (.ref eV)) (hEV : Exa Z Z.heap eV "[Lcom/example/grant/grant/providers/ClientAuthentication;") (hVV : Arv Z Z.heap eV kV (.object "com/example/grant/grant/providers/ClientAuthentication") (2 : Int32) [(.ref eB), (.ref eP)] .null) {h : Heap} (hO : Old Z n0 h) (x : Int32) (lx : own_lat x) :
    Con [] false l Z own_EL n0 [] (⟨"com/example/grant/grant/providers/ClientAuthenticationNamedPinLaw", "basicPlus", "(C)[C"⟩ : MethodName) method_4_code 1 (some (.array .char)) ({ frames := 0, cells := 1, slots := 20, locals := 0 } : Room) #[(.int x)] h (fun v h' => ∃ (r : Addr) (kc : ClassId), v = some (.ref r) ∧ Ext h h' ∧ h.size ≤ r ∧ Arv Z h' r kc .char (20 : Int32) [(.int (99 : Int32)), (.int (108 : Int32)), (.int (105 : Int32)), (.int (101 : Int32)), (.int (110 : Int32)), (.int (116 : Int32)), (.int (95 : Int32)), (.int (115 : Int32)), (.int (101 : Int32)), (.int (99 : Int32)), (.int (114 : Int32)), (.int (101 : Int32)), (.int (116 : Int32)), (.int (95 : Int32)), (.int (98 : Int32)), (.int (97 : Int32)), (.int (115 : Int32)), (.int (105 : Int32)), (.int (99 : Int32)), (.int x)] (.int (0 : Int32))) := by
  refine Con.intro (Ls := #[.val (.int x)]) pn7 hEL hO (fun m => by first | rfl | (simp [entryFrame, mkF, argsToLocals, Value.category]; done)) fun C vm T hl X hs => ?_
  have X : On C ({ frames := 0, cells := 1, slots := 20, locals := 0 } : Room) "com/example/grant/grant/providers/ClientAuthenticationNamedPinLaw" method_4_code 1 (some (.array .char)) "basicPlus" false Z a0 own_EL n0 vm T h 0 0 := X
  refine X.bipush i7_0 (z := (20 : Int32)) rfl ?_
  refine X.newarray i7_2 (ty := .char) rfl (hw _ wd_4) (by decide) (cap := 20) (by decide) (by decide) (k' := 1) rfl (n' := 20) rfl (by decide) (by decide) fun T1 h1 a1 c1 X1 E1 z1 g1 V1 Sf1 => ?_
  have V1 : Arv Z h1 a1 c1 .char (20 : Int32) [(.int (0 : Int32)), (.int (0 : Int32)), (.int (0 : Int32)), (.int (0 : Int32)), (.int (0 : Int32)), (.int (0 : Int32)), (.int (0 : Int32)), (.int (0 : Int32)), (.int (0 : Int32)), (.int (0 : Int32)), (.int (0 : Int32)), (.int (0 : Int32)), (.int (0 : Int32)), (.int (0 : Int32)), (.int (0 : Int32)), (.int (0 : Int32)), (.int (0 : Int32)), (.int (0 : Int32)), (.int (0 : Int32)), (.int (0 : Int32))] (.int (0 : Int32)) := V1.pad (pad_rep [] (.int (0 : Int32)) 20)
  refine X1.dup i7_4 rfl ?_
  refine X1.iconst i7_5 (z := (0 : Int32)) rfl ?_
  refine X1.bipush i7_6 (z := (99 : Int32)) rfl ?_
  refine X1.castore i7_8 V1 ⟨by decide, by decide⟩ (i := 0) rfl (Nat.le_of_ble_eq_true rfl) (y := (99 : Int32)) rfl g1 fun T2 h2 X2 W2 V2 => ?_
  have V2 : Arv Z h2 a1 c1 .char (20 : Int32) [(.int (99 : Int32)), (.int (0 : Int32)), (.int (0 : Int32)), (.int (0 : Int32)), (.int (0 : Int32)), (.int (0 : Int32)), (.int (0 : Int32)), (.int (0 : Int32)), (.int (0 : Int32)), (.int (0 : Int32)), (.int (0 : Int32)), (.int (0 : Int32)), (.int (0 : Int32)), (.int (0 : Int32)), (.int (0 : Int32)), (.int (0 : Int32)), (.int (0 : Int32)), (.int (0 : Int32)), (.int (0 : Int32)), (.int (0 : Int32))] (.int (0 : Int32)) := V2
  refine X2.dup i7_9 rfl ?_
  refine X2.iconst i7_10 (z := (1 : Int32)) rfl ?_
  refine X2.bipush i7_11 (z := (108 : Int32)) rfl ?_
  refine X2.castore i7_13 V2 ⟨by decide, by decide⟩ (i := 1) rfl (Nat.le_of_ble_eq_true rfl) (y := (108 : Int32)) rfl g1 fun T3 h3 X3 W3 V3 => ?_
  have V3 : Arv Z h3 a1 c1 .char (20 : Int32) [(.int (99 : Int32)), (.int (108 : Int32)), (.int (0 : Int32)), (.int (0 : Int32)), (.int (0 : Int32)), (.int (0 : Int32)), (.int (0 : Int32)), (.int (0 : Int32)), (.int (0 : Int32)), (.int (0 : Int32)), (.int (0 : Int32)), (.int (0 : Int32)), (.int (0 : Int32)), (.int (0 : Int32)), (.int (0 : Int32)), (.int (0 : Int32)), (.int (0 : Int32)), (.int (0 : Int32)), (.int (0 : Int32)), (.int (0 : Int32))] (.int (0 : Int32)) := V3
  refine X3.dup i7_14 rfl ?_
  refine X3.iconst i7_15 (z := (2 : Int32)) rfl ?_
  refine X3.bipush i7_16 (z := (105 : Int32)) rfl ?_
  refine X3.castore i7_18 V3 ⟨by decide, by decide⟩ (i := 2) rfl (Nat.le_of_ble_eq_true rfl) (y := (105 : Int32)) rfl g1 fun T4 h4 X4 W4 V4 => ?_
  have V4 : Arv Z h4 a1 c1 .char (20 : Int32) [(.int (99 : Int32)), (.int (108 : Int32)), (.int (105 : Int32)), (.int (0 : Int32)), (.int (0 : Int32)), (.int (0 : Int32)), (.int (0 : Int32)), (.int (0 : Int32)), (.int (0 : Int32)), (.int (0 : Int32)), (.int (0 : Int32)), (.int (0 : Int32)), (.int (0 : Int32)), (.int (0 : Int32)), (.int (0 : Int32)), (.int (0 : Int32)), (.int (0 : Int32)), (.int (0 : Int32)), (.int (0 : Int32)), (.int (0 : Int32))] (.int (0 : Int32)) := V4
  refine X4.dup i7_19 rfl ?_
  refine X4.iconst i7_20 (z := (3 : Int32)) rfl ?_
  refine X4.bipush i7_21 (z := (101 : Int32)) rfl ?_
  refine X4.castore i7_23 V4 ⟨by decide, by decide⟩ (i := 3) rfl (Nat.le_of_ble_eq_true rfl) (y := (101 : Int32)) rfl g1 fun T5 h5 X5 W5 V5 => ?_
  have V5 : Arv Z h5 a1 c1 .char (20 : Int32) [(.int (99 : Int32)), (.int (108 : Int32)), (.int (105 : Int32)), (.int (101 : Int32)), (.int (0 : Int32)), (.int (0 : Int32)), (.int (0 : Int32)), (.int (0 : Int32)), (.int (0 : Int32)), (.int (0 : Int32)), (.int (0 : Int32)), (.int (0 : Int32)), (.int (0 : Int32)), (.int (0 : Int32)), (.int (0 : Int32)), (.int (0 : Int32)), (.int (0 : Int32)), (.int (0 : Int32)), (.int (0 : Int32)), (.int (0 : Int32))] (.int (0 : Int32)) := V5
  refine X5.dup i7_24 rfl ?_
  refine X5.iconst i7_25 (z := (4 : Int32)) rfl ?_
  refine X5.bipush i7_26 (z := (110 : Int32)) rfl ?_
  refine X5.castore i7_28 V5 ⟨by decide, by decide⟩ (i := 4) rfl (Nat.le_of_ble_eq_true rfl) (y := (110 : Int32)) rfl g1 fun T6 h6 X6 W6 V6 => ?_
  have V6 : Arv Z h6 a1 c1 .char (20 : Int32) [(.int (99 : Int32)), (.int (108 : Int32)), (.int (105 : Int32)), (.int (101 : Int32)), (.int (110 : Int32)), (.int (0 : Int32)), (.int (0 : Int32)), (.int (0 : Int32)), (.int (0 : Int32)), (.int (0 : Int32)), (.int (0 : Int32)), (.int (0 : Int32)), (.int (0 : Int32)), (.int (0 : Int32)), (.int (0 : Int32)), (.int (0 : Int32)), (.int (0 : Int32)), (.int (0 : Int32)), (.int (0 : Int32)), (.int (0 : Int32))] (.int (0 : Int32)) := V6
  refine X6.dup i7_29 rfl ?_
  refine X6.iconst i7_30 (z := (5 : Int32)) rfl ?_
  refine X6.bipush i7_31 (z := (116 : Int32)) rfl ?_
  refine X6.castore i7_33 V6 ⟨by decide, by decide⟩ (i := 5) rfl (Nat.le_of_ble_eq_true rfl) (y := (116 : Int32)) rfl g1 fun T7 h7 X7 W7 V7 => ?_
  have V7 : Arv Z h7 a1 c1 .char (20 : Int32) [(.int (99 : Int32)), (.int (108 : Int32)), (.int (105 : Int32)), (.int (101 : Int32)), (.int (110 : Int32)), (.int (116 : Int32)), (.int (0 : Int32)), (.int (0 : Int32)), (.int (0 : Int32)), (.int (0 : Int32)), (.int (0 : Int32)), (.int (0 : Int32)), (.int (0 : Int32)), (.int (0 : Int32)), (.int (0 : Int32)), (.int (0 : Int32)), (.int (0 : Int32)), (.int (0 : Int32)), (.int (0 : Int32)), (.int (0 : Int32))] (.int (0 : Int32)) := V7
  refine X7.dup i7_34 rfl ?_
  refine X7.bipush i7_35 (z := (6 : Int32)) rfl ?_
  refine X7.bipush i7_37 (z := (95 : Int32)) rfl ?_
  refine X7.castore i7_39 V7 ⟨by decide, by decide⟩ (i := 6) rfl (Nat.le_of_ble_eq_true rfl) (y := (95 : Int32)) rfl g1 fun T8 h8 X8 W8 V8 => ?_
  have V8 : Arv Z h8 a1 c1 .char (20 : Int32) [(.int (99 : Int32)), (.int (108 : Int32)), (.int (105 : Int32)), (.int (101 : Int32)), (.int (110 : Int32)), (.int (116 : Int32)), (.int (95 : Int32)), (.int (0 : Int32)), (.int (0 : Int32)), (.int (0 : Int32)), (.int (0 : Int32)), (.int (0 : Int32)), (.int (0 : Int32)), (.int (0 : Int32)), (.int (0 : Int32)), (.int (0 : Int32)), (.int (0 : Int32)), (.int (0 : Int32)), (.int (0 : Int32)), (.int (0 : Int32))] (.int (0 : Int32)) := V8
  refine X8.dup i7_40 rfl ?_
  refine X8.bipush i7_41 (z := (7 : Int32)) rfl ?_
  refine X8.bipush i7_43 (z := (115 : Int32)) rfl ?_
  refine X8.castore i7_45 V8 ⟨by decide, by decide⟩ (i := 7) rfl (Nat.le_of_ble_eq_true rfl) (y := (115 : Int32)) rfl g1 fun T9 h9 X9 W9 V9 => ?_
  have V9 : Arv Z h9 a1 c1 .char (20 : Int32) [(.int (99 : Int32)), (.int (108 : Int32)), (.int (105 : Int32)), (.int (101 : Int32)), (.int (110 : Int32)), (.int (116 : Int32)), (.int (95 : Int32)), (.int (115 : Int32)), (.int (0 : Int32)), (.int (0 : Int32)), (.int (0 : Int32)), (.int (0 : Int32)), (.int (0 : Int32)), (.int (0 : Int32)), (.int (0 : Int32)), (.int (0 : Int32)), (.int (0 : Int32)), (.int (0 : Int32)), (.int (0 : Int32)), (.int (0 : Int32))] (.int (0 : Int32)) := V9
  refine X9.dup i7_46 rfl ?_
  refine X9.bipush i7_47 (z := (8 : Int32)) rfl ?_
  refine X9.bipush i7_49 (z := (101 : Int32)) rfl ?_
  refine X9.castore i7_51 V9 ⟨by decide, by decide⟩ (i := 8) rfl (Nat.le_of_ble_eq_true rfl) (y := (101 : Int32)) rfl g1 fun T10 h10 X10 W10 V10 => ?_
  have V10 : Arv Z h10 a1 c1 .char (20 : Int32) [(.int (99 : Int32)), (.int (108 : Int32)), (.int (105 : Int32)), (.int (101 : Int32)), (.int (110 : Int32)), (.int (116 : Int32)), (.int (95 : Int32)), (.int (115 : Int32)), (.int (101 : Int32)), (.int (0 : Int32)), (.int (0 : Int32)), (.int (0 : Int32)), (.int (0 : Int32)), (.int (0 : Int32)), (.int (0 : Int32)), (.int (0 : Int32)), (.int (0 : Int32)), (.int (0 : Int32)), (.int (0 : Int32)), (.int (0 : Int32))] (.int (0 : Int32)) := V10
  refine X10.dup i7_52 rfl ?_
  refine X10.bipush i7_53 (z := (9 : Int32)) rfl ?_
  refine X10.bipush i7_55 (z := (99 : Int32)) rfl ?_
  refine X10.castore i7_57 V10 ⟨by decide, by decide⟩ (i := 9) rfl (Nat.le_of_ble_eq_true rfl) (y := (99 : Int32)) rfl g1 fun T11 h11 X11 W11 V11 => ?_
  have V11 : Arv Z h11 a1 c1 .char (20 : Int32) [(.int (99 : Int32)), (.int (108 : Int32)), (.int (105 : Int32)), (.int (101 : Int32)), (.int (110 : Int32)), (.int (116 : Int32)), (.int (95 : Int32)), (.int (115 : Int32)), (.int (101 : Int32)), (.int (99 : Int32)), (.int (0 : Int32)), (.int (0 : Int32)), (.int (0 : Int32)), (.int (0 : Int32)), (.int (0 : Int32)), (.int (0 : Int32)), (.int (0 : Int32)), (.int (0 : Int32)), (.int (0 : Int32)), (.int (0 : Int32))] (.int (0 : Int32)) := V11
  refine X11.dup i7_58 rfl ?_
  refine X11.bipush i7_59 (z := (10 : Int32)) rfl ?_
  refine X11.bipush i7_61 (z := (114 : Int32)) rfl ?_
  refine X11.castore i7_63 V11 ⟨by decide, by decide⟩ (i := 10) rfl (Nat.le_of_ble_eq_true rfl) (y := (114 : Int32)) rfl g1 fun T12 h12 X12 W12 V12 => ?_
  have V12 : Arv Z h12 a1 c1 .char (20 : Int32) [(.int (99 : Int32)), (.int (108 : Int32)), (.int (105 : Int32)), (.int (101 : Int32)), (.int (110 : Int32)), (.int (116 : Int32)), (.int (95 : Int32)), (.int (115 : Int32)), (.int (101 : Int32)), (.int (99 : Int32)), (.int (114 : Int32)), (.int (0 : Int32)), (.int (0 : Int32)), (.int (0 : Int32)), (.int (0 : Int32)), (.int (0 : Int32)), (.int (0 : Int32)), (.int (0 : Int32)), (.int (0 : Int32)), (.int (0 : Int32))] (.int (0 : Int32)) := V12
  refine X12.dup i7_64 rfl ?_
  refine X12.bipush i7_65 (z := (11 : Int32)) rfl ?_
  refine X12.bipush i7_67 (z := (101 : Int32)) rfl ?_
  refine X12.castore i7_69 V12 ⟨by decide, by decide⟩ (i := 11) rfl (Nat.le_of_ble_eq_true rfl) (y := (101 : Int32)) rfl g1 fun T13 h13 X13 W13 V13 => ?_
  have V13 : Arv Z h13 a1 c1 .char (20 : Int32) [(.int (99 : Int32)), (.int (108 : Int32)), (.int (105 : Int32)), (.int (101 : Int32)), (.int (110 : Int32)), (.int (116 : Int32)), (.int (95 : Int32)), (.int (115 : Int32)), (.int (101 : Int32)), (.int (99 : Int32)), (.int (114 : Int32)), (.int (101 : Int32)), (.int (0 : Int32)), (.int (0 : Int32)), (.int (0 : Int32)), (.int (0 : Int32)), (.int (0 : Int32)), (.int (0 : Int32)), (.int (0 : Int32)), (.int (0 : Int32))] (.int (0 : Int32)) := V13
  refine X13.dup i7_70 rfl ?_
  refine X13.bipush i7_71 (z := (12 : Int32)) rfl ?_
  refine X13.bipush i7_73 (z := (116 : Int32)) rfl ?_
  refine X13.castore i7_75 V13 ⟨by decide, by decide⟩ (i := 12) rfl (Nat.le_of_ble_eq_true rfl) (y := (116 : Int32)) rfl g1 fun T14 h14 X14 W14 V14 => ?_
  have V14 : Arv Z h14 a1 c1 .char (20 : Int32) [(.int (99 : Int32)), (.int (108 : Int32)), (.int (105 : Int32)), (.int (101 : Int32)), (.int (110 : Int32)), (.int (116 : Int32)), (.int (95 : Int32)), (.int (115 : Int32)), (.int (101 : Int32)), (.int (99 : Int32)), (.int (114 : Int32)), (.int (101 : Int32)), (.int (116 : Int32)), (.int (0 : Int32)), (.int (0 : Int32)), (.int (0 : Int32)), (.int (0 : Int32)), (.int (0 : Int32)), (.int (0 : Int32)), (.int (0 : Int32))] (.int (0 : Int32)) := V14
  refine X14.dup i7_76 rfl ?_
  refine X14.bipush i7_77 (z := (13 : Int32)) rfl ?_
  refine X14.bipush i7_79 (z := (95 : Int32)) rfl ?_
  refine X14.castore i7_81 V14 ⟨by decide, by decide⟩ (i := 13) rfl (Nat.le_of_ble_eq_true rfl) (y := (95 : Int32)) rfl g1 fun T15 h15 X15 W15 V15 => ?_
  have V15 : Arv Z h15 a1 c1 .char (20 : Int32) [(.int (99 : Int32)), (.int (108 : Int32)), (.int (105 : Int32)), (.int (101 : Int32)), (.int (110 : Int32)), (.int (116 : Int32)), (.int (95 : Int32)), (.int (115 : Int32)), (.int (101 : Int32)), (.int (99 : Int32)), (.int (114 : Int32)), (.int (101 : Int32)), (.int (116 : Int32)), (.int (95 : Int32)), (.int (0 : Int32)), (.int (0 : Int32)), (.int (0 : Int32)), (.int (0 : Int32)), (.int (0 : Int32)), (.int (0 : Int32))] (.int (0 : Int32)) := V15
  refine X15.dup i7_82 rfl ?_
  refine X15.bipush i7_83 (z := (14 : Int32)) rfl ?_
  refine X15.bipush i7_85 (z := (98 : Int32)) rfl ?_
  refine X15.castore i7_87 V15 ⟨by decide, by decide⟩ (i := 14) rfl (Nat.le_of_ble_eq_true rfl) (y := (98 : Int32)) rfl g1 fun T16 h16 X16 W16 V16 => ?_
  have V16 : Arv Z h16 a1 c1 .char (20 : Int32) [(.int (99 : Int32)), (.int (108 : Int32)), (.int (105 : Int32)), (.int (101 : Int32)), (.int (110 : Int32)), (.int (116 : Int32)), (.int (95 : Int32)), (.int (115 : Int32)), (.int (101 : Int32)), (.int (99 : Int32)), (.int (114 : Int32)), (.int (101 : Int32)), (.int (116 : Int32)), (.int (95 : Int32)), (.int (98 : Int32)), (.int (0 : Int32)), (.int (0 : Int32)), (.int (0 : Int32)), (.int (0 : Int32)), (.int (0 : Int32))] (.int (0 : Int32)) := V16
  refine X16.dup i7_88 rfl ?_
  refine X16.bipush i7_89 (z := (15 : Int32)) rfl ?_
  refine X16.bipush i7_91 (z := (97 : Int32)) rfl ?_
  refine X16.castore i7_93 V16 ⟨by decide, by decide⟩ (i := 15) rfl (Nat.le_of_ble_eq_true rfl) (y := (97 : Int32)) rfl g1 fun T17 h17 X17 W17 V17 => ?_
  have V17 : Arv Z h17 a1 c1 .char (20 : Int32) [(.int (99 : Int32)), (.int (108 : Int32)), (.int (105 : Int32)), (.int (101 : Int32)), (.int (110 : Int32)), (.int (116 : Int32)), (.int (95 : Int32)), (.int (115 : Int32)), (.int (101 : Int32)), (.int (99 : Int32)), (.int (114 : Int32)), (.int (101 : Int32)), (.int (116 : Int32)), (.int (95 : Int32)), (.int (98 : Int32)), (.int (97 : Int32)), (.int (0 : Int32)), (.int (0 : Int32)), (.int (0 : Int32)), (.int (0 : Int32))] (.int (0 : Int32)) := V17
  refine X17.dup i7_94 rfl ?_
  refine X17.bipush i7_95 (z := (16 : Int32)) rfl ?_
  refine X17.bipush i7_97 (z := (115 : Int32)) rfl ?_
  refine X17.castore i7_99 V17 ⟨by decide, by decide⟩ (i := 16) rfl (Nat.le_of_ble_eq_true rfl) (y := (115 : Int32)) rfl g1 fun T18 h18 X18 W18 V18 => ?_
  have V18 : Arv Z h18 a1 c1 .char (20 : Int32) [(.int (99 : Int32)), (.int (108 : Int32)), (.int (105 : Int32)), (.int (101 : Int32)), (.int (110 : Int32)), (.int (116 : Int32)), (.int (95 : Int32)), (.int (115 : Int32)), (.int (101 : Int32)), (.int (99 : Int32)), (.int (114 : Int32)), (.int (101 : Int32)), (.int (116 : Int32)), (.int (95 : Int32)), (.int (98 : Int32)), (.int (97 : Int32)), (.int (115 : Int32)), (.int (0 : Int32)), (.int (0 : Int32)), (.int (0 : Int32))] (.int (0 : Int32)) := V18
  refine X18.dup i7_100 rfl ?_
  refine X18.bipush i7_101 (z := (17 : Int32)) rfl ?_
  refine X18.bipush i7_103 (z := (105 : Int32)) rfl ?_
  refine X18.castore i7_105 V18 ⟨by decide, by decide⟩ (i := 17) rfl (Nat.le_of_ble_eq_true rfl) (y := (105 : Int32)) rfl g1 fun T19 h19 X19 W19 V19 => ?_
  have V19 : Arv Z h19 a1 c1 .char (20 : Int32) [(.int (99 : Int32)), (.int (108 : Int32)), (.int (105 : Int32)), (.int (101 : Int32)), (.int (110 : Int32)), (.int (116 : Int32)), (.int (95 : Int32)), (.int (115 : Int32)), (.int (101 : Int32)), (.int (99 : Int32)), (.int (114 : Int32)), (.int (101 : Int32)), (.int (116 : Int32)), (.int (95 : Int32)), (.int (98 : Int32)), (.int (97 : Int32)), (.int (115 : Int32)), (.int (105 : Int32)), (.int (0 : Int32)), (.int (0 : Int32))] (.int (0 : Int32)) := V19
  refine X19.dup i7_106 rfl ?_
  refine X19.bipush i7_107 (z := (18 : Int32)) rfl ?_
  refine X19.bipush i7_109 (z := (99 : Int32)) rfl ?_
  refine X19.castore i7_111 V19 ⟨by decide, by decide⟩ (i := 18) rfl (Nat.le_of_ble_eq_true rfl) (y := (99 : Int32)) rfl g1 fun T20 h20 X20 W20 V20 => ?_
  have V20 : Arv Z h20 a1 c1 .char (20 : Int32) [(.int (99 : Int32)), (.int (108 : Int32)), (.int (105 : Int32)), (.int (101 : Int32)), (.int (110 : Int32)), (.int (116 : Int32)), (.int (95 : Int32)), (.int (115 : Int32)), (.int (101 : Int32)), (.int (99 : Int32)), (.int (114 : Int32)), (.int (101 : Int32)), (.int (116 : Int32)), (.int (95 : Int32)), (.int (98 : Int32)), (.int (97 : Int32)), (.int (115 : Int32)), (.int (105 : Int32)), (.int (99 : Int32)), (.int (0 : Int32))] (.int (0 : Int32)) := V20
  refine X20.dup i7_112 rfl ?_
  refine X20.bipush i7_113 (z := (19 : Int32)) rfl ?_
  refine X20.iload_n i7_115 rfl ?_
  refine X20.castore i7_116 V20 ⟨by decide, by decide⟩ (i := 19) rfl (Nat.le_of_ble_eq_true rfl) (y := x) (own_i2c lx) g1 fun T21 h21 X21 W21 V21 => ?_
  have V21 : Arv Z h21 a1 c1 .char (20 : Int32) [(.int (99 : Int32)), (.int (108 : Int32)), (.int (105 : Int32)), (.int (101 : Int32)), (.int (110 : Int32)), (.int (116 : Int32)), (.int (95 : Int32)), (.int (115 : Int32)), (.int (101 : Int32)), (.int (99 : Int32)), (.int (114 : Int32)), (.int (101 : Int32)), (.int (116 : Int32)), (.int (95 : Int32)), (.int (98 : Int32)), (.int (97 : Int32)), (.int (115 : Int32)), (.int (105 : Int32)), (.int (99 : Int32)), (.int x)] (.int (0 : Int32)) := V21
  exact X21.areturn i7_117 rfl rfl rfl (by decide) (by decide) ⟨a1, c1, rfl, (ext_wr (ext_wr (ext_wr (ext_wr (ext_wr (ext_wr (ext_wr (ext_wr (ext_wr (ext_wr (ext_wr (ext_wr (ext_wr (ext_wr (ext_wr (ext_wr (ext_wr (ext_wr (ext_wr (ext_wr E1 W2 (Nat.le_of_eq z1)) W3 (Nat.le_of_eq z1)) W4 (Nat.le_of_eq z1)) W5 (Nat.le_of_eq z1)) W6 (Nat.le_of_eq z1)) W7 (Nat.le_of_eq z1)) W8 (Nat.le_of_eq z1)) W9 (Nat.le_of_eq z1)) W10 (Nat.le_of_eq z1)) W11 (Nat.le_of_eq z1)) W12 (Nat.le_of_eq z1)) W13 (Nat.le_of_eq z1)) W14 (Nat.le_of_eq z1)) W15 (Nat.le_of_eq z1)) W16 (Nat.le_of_eq z1)) W17 (Nat.le_of_eq z1)) W18 (Nat.le_of_eq z1)) W19 (Nat.le_of_eq z1)) W20 (Nat.le_of_eq z1)) W21 (Nat.le_of_eq z1)), (Nat.le_of_eq z1), V21⟩
set_option maxRecDepth 65536 in
set_option maxHeartbeats 40000000 in
theorem c_pp (l : Launch) {Z : State} {a0 : Array Value} {n0 : Nat} (hw : ∀ d ∈ tables_1, d.before a0 Z = true) (hEL : EW Z a0 own_EL) {zc : Int32} (hcs : Sta Z Z.heap "java/lang/String" "COMPACT_STRINGS" "Z" (.int zc)) (hcz : ¬ zc = 0) {eB eP mB tB mP tP : Addr} {bB bP : ClassId} (hSB : Sta Z Z.heap "com/example/grant/grant/providers/ClientAuthentication" "BASIC" "Lcom/example/grant/grant/providers/ClientAuthentication;" (.ref eB)) (hSP : Sta Z Z.heap "com/example/grant/grant/providers/ClientAuthentication" "POST" "Lcom/example/grant/grant/providers/ClientAuthentication;" (.ref eP)) (hFB : Fld Z Z.heap eB "com/example/grant/grant/providers/ClientAuthentication" "method" "Ljava/lang/String;" (.ref mB)) (hFP : Fld Z Z.heap eP "com/example/grant/grant/providers/ClientAuthentication" "method" "Ljava/lang/String;" (.ref mP)) (hTB : Str Z Z.heap mB tB bB own_csB) (hTP : Str Z Z.heap mP tP bP own_csP) {eV : Addr} {kV : ClassId} (hSV : Sta Z Z.heap "com/example/grant/grant/providers/ClientAuthentication" "$VALUES" "[Lcom/example/grant/grant/providers/ClientAuthentication;" (.ref eV)) (hEV : Exa Z Z.heap eV "[Lcom/example/grant/grant/providers/ClientAuthentication;") (hVV : Arv Z Z.heap eV kV (.object "com/example/grant/grant/providers/ClientAuthentication") (2 : Int32) [(.ref eB), (.ref eP)] .null) {h : Heap} (hO : Old Z n0 h) (x : Int32) (lx : own_lat x) :
    Con [] false l Z own_EL n0 [] (⟨"com/example/grant/grant/providers/ClientAuthenticationNamedPinLaw", "postPlus", "(C)[C"⟩ : MethodName) method_5_code 1 (some (.array .char)) ({ frames := 0, cells := 1, slots := 19, locals := 0 } : Room) #[(.int x)] h (fun v h' => ∃ (r : Addr) (kc : ClassId), v = some (.ref r) ∧ Ext h h' ∧ h.size ≤ r ∧ Arv Z h' r kc .char (19 : Int32) [(.int (99 : Int32)), (.int (108 : Int32)), (.int (105 : Int32)), (.int (101 : Int32)), (.int (110 : Int32)), (.int (116 : Int32)), (.int (95 : Int32)), (.int (115 : Int32)), (.int (101 : Int32)), (.int (99 : Int32)), (.int (114 : Int32)), (.int (101 : Int32)), (.int (116 : Int32)), (.int (95 : Int32)), (.int (112 : Int32)), (.int (111 : Int32)), (.int (115 : Int32)), (.int (116 : Int32)), (.int x)] (.int (0 : Int32))) := by
  refine Con.intro (Ls := #[.val (.int x)]) pn8 hEL hO (fun m => by first | rfl | (simp [entryFrame, mkF, argsToLocals, Value.category]; done)) fun C vm T hl X hs => ?_
  have X : On C ({ frames := 0, cells := 1, slots := 19, locals := 0 } : Room) "com/example/grant/grant/providers/ClientAuthenticationNamedPinLaw" method_5_code 1 (some (.array .char)) "postPlus" false Z a0 own_EL n0 vm T h 0 0 := X
  refine X.bipush i8_0 (z := (19 : Int32)) rfl ?_
  refine X.newarray i8_2 (ty := .char) rfl (hw _ wd_4) (by decide) (cap := 19) (by decide) (by decide) (k' := 1) rfl (n' := 19) rfl (by decide) (by decide) fun T1 h1 a1 c1 X1 E1 z1 g1 V1 Sf1 => ?_
  have V1 : Arv Z h1 a1 c1 .char (19 : Int32) [(.int (0 : Int32)), (.int (0 : Int32)), (.int (0 : Int32)), (.int (0 : Int32)), (.int (0 : Int32)), (.int (0 : Int32)), (.int (0 : Int32)), (.int (0 : Int32)), (.int (0 : Int32)), (.int (0 : Int32)), (.int (0 : Int32)), (.int (0 : Int32)), (.int (0 : Int32)), (.int (0 : Int32)), (.int (0 : Int32)), (.int (0 : Int32)), (.int (0 : Int32)), (.int (0 : Int32)), (.int (0 : Int32))] (.int (0 : Int32)) := V1.pad (pad_rep [] (.int (0 : Int32)) 19)
  refine X1.dup i8_4 rfl ?_
  refine X1.iconst i8_5 (z := (0 : Int32)) rfl ?_
  refine X1.bipush i8_6 (z := (99 : Int32)) rfl ?_
  refine X1.castore i8_8 V1 ⟨by decide, by decide⟩ (i := 0) rfl (Nat.le_of_ble_eq_true rfl) (y := (99 : Int32)) rfl g1 fun T2 h2 X2 W2 V2 => ?_
  have V2 : Arv Z h2 a1 c1 .char (19 : Int32) [(.int (99 : Int32)), (.int (0 : Int32)), (.int (0 : Int32)), (.int (0 : Int32)), (.int (0 : Int32)), (.int (0 : Int32)), (.int (0 : Int32)), (.int (0 : Int32)), (.int (0 : Int32)), (.int (0 : Int32)), (.int (0 : Int32)), (.int (0 : Int32)), (.int (0 : Int32)), (.int (0 : Int32)), (.int (0 : Int32)), (.int (0 : Int32)), (.int (0 : Int32)), (.int (0 : Int32)), (.int (0 : Int32))] (.int (0 : Int32)) := V2
  refine X2.dup i8_9 rfl ?_
  refine X2.iconst i8_10 (z := (1 : Int32)) rfl ?_
  refine X2.bipush i8_11 (z := (108 : Int32)) rfl ?_
  refine X2.castore i8_13 V2 ⟨by decide, by decide⟩ (i := 1) rfl (Nat.le_of_ble_eq_true rfl) (y := (108 : Int32)) rfl g1 fun T3 h3 X3 W3 V3 => ?_
  have V3 : Arv Z h3 a1 c1 .char (19 : Int32) [(.int (99 : Int32)), (.int (108 : Int32)), (.int (0 : Int32)), (.int (0 : Int32)), (.int (0 : Int32)), (.int (0 : Int32)), (.int (0 : Int32)), (.int (0 : Int32)), (.int (0 : Int32)), (.int (0 : Int32)), (.int (0 : Int32)), (.int (0 : Int32)), (.int (0 : Int32)), (.int (0 : Int32)), (.int (0 : Int32)), (.int (0 : Int32)), (.int (0 : Int32)), (.int (0 : Int32)), (.int (0 : Int32))] (.int (0 : Int32)) := V3
  refine X3.dup i8_14 rfl ?_
  refine X3.iconst i8_15 (z := (2 : Int32)) rfl ?_
  refine X3.bipush i8_16 (z := (105 : Int32)) rfl ?_
  refine X3.castore i8_18 V3 ⟨by decide, by decide⟩ (i := 2) rfl (Nat.le_of_ble_eq_true rfl) (y := (105 : Int32)) rfl g1 fun T4 h4 X4 W4 V4 => ?_
  have V4 : Arv Z h4 a1 c1 .char (19 : Int32) [(.int (99 : Int32)), (.int (108 : Int32)), (.int (105 : Int32)), (.int (0 : Int32)), (.int (0 : Int32)), (.int (0 : Int32)), (.int (0 : Int32)), (.int (0 : Int32)), (.int (0 : Int32)), (.int (0 : Int32)), (.int (0 : Int32)), (.int (0 : Int32)), (.int (0 : Int32)), (.int (0 : Int32)), (.int (0 : Int32)), (.int (0 : Int32)), (.int (0 : Int32)), (.int (0 : Int32)), (.int (0 : Int32))] (.int (0 : Int32)) := V4
  refine X4.dup i8_19 rfl ?_
  refine X4.iconst i8_20 (z := (3 : Int32)) rfl ?_
  refine X4.bipush i8_21 (z := (101 : Int32)) rfl ?_
  refine X4.castore i8_23 V4 ⟨by decide, by decide⟩ (i := 3) rfl (Nat.le_of_ble_eq_true rfl) (y := (101 : Int32)) rfl g1 fun T5 h5 X5 W5 V5 => ?_
  have V5 : Arv Z h5 a1 c1 .char (19 : Int32) [(.int (99 : Int32)), (.int (108 : Int32)), (.int (105 : Int32)), (.int (101 : Int32)), (.int (0 : Int32)), (.int (0 : Int32)), (.int (0 : Int32)), (.int (0 : Int32)), (.int (0 : Int32)), (.int (0 : Int32)), (.int (0 : Int32)), (.int (0 : Int32)), (.int (0 : Int32)), (.int (0 : Int32)), (.int (0 : Int32)), (.int (0 : Int32)), (.int (0 : Int32)), (.int (0 : Int32)), (.int (0 : Int32))] (.int (0 : Int32)) := V5
  refine X5.dup i8_24 rfl ?_
  refine X5.iconst i8_25 (z := (4 : Int32)) rfl ?_
  refine X5.bipush i8_26 (z := (110 : Int32)) rfl ?_
  refine X5.castore i8_28 V5 ⟨by decide, by decide⟩ (i := 4) rfl (Nat.le_of_ble_eq_true rfl) (y := (110 : Int32)) rfl g1 fun T6 h6 X6 W6 V6 => ?_
  have V6 : Arv Z h6 a1 c1 .char (19 : Int32) [(.int (99 : Int32)), (.int (108 : Int32)), (.int (105 : Int32)), (.int (101 : Int32)), (.int (110 : Int32)), (.int (0 : Int32)), (.int (0 : Int32)), (.int (0 : Int32)), (.int (0 : Int32)), (.int (0 : Int32)), (.int (0 : Int32)), (.int (0 : Int32)), (.int (0 : Int32)), (.int (0 : Int32)), (.int (0 : Int32)), (.int (0 : Int32)), (.int (0 : Int32)), (.int (0 : Int32)), (.int (0 : Int32))] (.int (0 : Int32)) := V6
  refine X6.dup i8_29 rfl ?_
  refine X6.iconst i8_30 (z := (5 : Int32)) rfl ?_
  refine X6.bipush i8_31 (z := (116 : Int32)) rfl ?_
  refine X6.castore i8_33 V6 ⟨by decide, by decide⟩ (i := 5) rfl (Nat.le_of_ble_eq_true rfl) (y := (116 : Int32)) rfl g1 fun T7 h7 X7 W7 V7 => ?_
  have V7 : Arv Z h7 a1 c1 .char (19 : Int32) [(.int (99 : Int32)), (.int (108 : Int32)), (.int (105 : Int32)), (.int (101 : Int32)), (.int (110 : Int32)), (.int (116 : Int32)), (.int (0 : Int32)), (.int (0 : Int32)), (.int (0 : Int32)), (.int (0 : Int32)), (.int (0 : Int32)), (.int (0 : Int32)), (.int (0 : Int32)), (.int (0 : Int32)), (.int (0 : Int32)), (.int (0 : Int32)), (.int (0 : Int32)), (.int (0 : Int32)), (.int (0 : Int32))] (.int (0 : Int32)) := V7
  refine X7.dup i8_34 rfl ?_
  refine X7.bipush i8_35 (z := (6 : Int32)) rfl ?_
  refine X7.bipush i8_37 (z := (95 : Int32)) rfl ?_
  refine X7.castore i8_39 V7 ⟨by decide, by decide⟩ (i := 6) rfl (Nat.le_of_ble_eq_true rfl) (y := (95 : Int32)) rfl g1 fun T8 h8 X8 W8 V8 => ?_
  have V8 : Arv Z h8 a1 c1 .char (19 : Int32) [(.int (99 : Int32)), (.int (108 : Int32)), (.int (105 : Int32)), (.int (101 : Int32)), (.int (110 : Int32)), (.int (116 : Int32)), (.int (95 : Int32)), (.int (0 : Int32)), (.int (0 : Int32)), (.int (0 : Int32)), (.int (0 : Int32)), (.int (0 : Int32)), (.int (0 : Int32)), (.int (0 : Int32)), (.int (0 : Int32)), (.int (0 : Int32)), (.int (0 : Int32)), (.int (0 : Int32)), (.int (0 : Int32))] (.int (0 : Int32)) := V8
  refine X8.dup i8_40 rfl ?_
  refine X8.bipush i8_41 (z := (7 : Int32)) rfl ?_
  refine X8.bipush i8_43 (z := (115 : Int32)) rfl ?_
  refine X8.castore i8_45 V8 ⟨by decide, by decide⟩ (i := 7) rfl (Nat.le_of_ble_eq_true rfl) (y := (115 : Int32)) rfl g1 fun T9 h9 X9 W9 V9 => ?_
  have V9 : Arv Z h9 a1 c1 .char (19 : Int32) [(.int (99 : Int32)), (.int (108 : Int32)), (.int (105 : Int32)), (.int (101 : Int32)), (.int (110 : Int32)), (.int (116 : Int32)), (.int (95 : Int32)), (.int (115 : Int32)), (.int (0 : Int32)), (.int (0 : Int32)), (.int (0 : Int32)), (.int (0 : Int32)), (.int (0 : Int32)), (.int (0 : Int32)), (.int (0 : Int32)), (.int (0 : Int32)), (.int (0 : Int32)), (.int (0 : Int32)), (.int (0 : Int32))] (.int (0 : Int32)) := V9
  refine X9.dup i8_46 rfl ?_
  refine X9.bipush i8_47 (z := (8 : Int32)) rfl ?_
  refine X9.bipush i8_49 (z := (101 : Int32)) rfl ?_
  refine X9.castore i8_51 V9 ⟨by decide, by decide⟩ (i := 8) rfl (Nat.le_of_ble_eq_true rfl) (y := (101 : Int32)) rfl g1 fun T10 h10 X10 W10 V10 => ?_
  have V10 : Arv Z h10 a1 c1 .char (19 : Int32) [(.int (99 : Int32)), (.int (108 : Int32)), (.int (105 : Int32)), (.int (101 : Int32)), (.int (110 : Int32)), (.int (116 : Int32)), (.int (95 : Int32)), (.int (115 : Int32)), (.int (101 : Int32)), (.int (0 : Int32)), (.int (0 : Int32)), (.int (0 : Int32)), (.int (0 : Int32)), (.int (0 : Int32)), (.int (0 : Int32)), (.int (0 : Int32)), (.int (0 : Int32)), (.int (0 : Int32)), (.int (0 : Int32))] (.int (0 : Int32)) := V10
  refine X10.dup i8_52 rfl ?_
  refine X10.bipush i8_53 (z := (9 : Int32)) rfl ?_
  refine X10.bipush i8_55 (z := (99 : Int32)) rfl ?_
  refine X10.castore i8_57 V10 ⟨by decide, by decide⟩ (i := 9) rfl (Nat.le_of_ble_eq_true rfl) (y := (99 : Int32)) rfl g1 fun T11 h11 X11 W11 V11 => ?_
  have V11 : Arv Z h11 a1 c1 .char (19 : Int32) [(.int (99 : Int32)), (.int (108 : Int32)), (.int (105 : Int32)), (.int (101 : Int32)), (.int (110 : Int32)), (.int (116 : Int32)), (.int (95 : Int32)), (.int (115 : Int32)), (.int (101 : Int32)), (.int (99 : Int32)), (.int (0 : Int32)), (.int (0 : Int32)), (.int (0 : Int32)), (.int (0 : Int32)), (.int (0 : Int32)), (.int (0 : Int32)), (.int (0 : Int32)), (.int (0 : Int32)), (.int (0 : Int32))] (.int (0 : Int32)) := V11
  refine X11.dup i8_58 rfl ?_
  refine X11.bipush i8_59 (z := (10 : Int32)) rfl ?_
  refine X11.bipush i8_61 (z := (114 : Int32)) rfl ?_
  refine X11.castore i8_63 V11 ⟨by decide, by decide⟩ (i := 10) rfl (Nat.le_of_ble_eq_true rfl) (y := (114 : Int32)) rfl g1 fun T12 h12 X12 W12 V12 => ?_
  have V12 : Arv Z h12 a1 c1 .char (19 : Int32) [(.int (99 : Int32)), (.int (108 : Int32)), (.int (105 : Int32)), (.int (101 : Int32)), (.int (110 : Int32)), (.int (116 : Int32)), (.int (95 : Int32)), (.int (115 : Int32)), (.int (101 : Int32)), (.int (99 : Int32)), (.int (114 : Int32)), (.int (0 : Int32)), (.int (0 : Int32)), (.int (0 : Int32)), (.int (0 : Int32)), (.int (0 : Int32)), (.int (0 : Int32)), (.int (0 : Int32)), (.int (0 : Int32))] (.int (0 : Int32)) := V12
  refine X12.dup i8_64 rfl ?_
  refine X12.bipush i8_65 (z := (11 : Int32)) rfl ?_
  refine X12.bipush i8_67 (z := (101 : Int32)) rfl ?_
  refine X12.castore i8_69 V12 ⟨by decide, by decide⟩ (i := 11) rfl (Nat.le_of_ble_eq_true rfl) (y := (101 : Int32)) rfl g1 fun T13 h13 X13 W13 V13 => ?_
  have V13 : Arv Z h13 a1 c1 .char (19 : Int32) [(.int (99 : Int32)), (.int (108 : Int32)), (.int (105 : Int32)), (.int (101 : Int32)), (.int (110 : Int32)), (.int (116 : Int32)), (.int (95 : Int32)), (.int (115 : Int32)), (.int (101 : Int32)), (.int (99 : Int32)), (.int (114 : Int32)), (.int (101 : Int32)), (.int (0 : Int32)), (.int (0 : Int32)), (.int (0 : Int32)), (.int (0 : Int32)), (.int (0 : Int32)), (.int (0 : Int32)), (.int (0 : Int32))] (.int (0 : Int32)) := V13
  refine X13.dup i8_70 rfl ?_
  refine X13.bipush i8_71 (z := (12 : Int32)) rfl ?_
  refine X13.bipush i8_73 (z := (116 : Int32)) rfl ?_
  refine X13.castore i8_75 V13 ⟨by decide, by decide⟩ (i := 12) rfl (Nat.le_of_ble_eq_true rfl) (y := (116 : Int32)) rfl g1 fun T14 h14 X14 W14 V14 => ?_
  have V14 : Arv Z h14 a1 c1 .char (19 : Int32) [(.int (99 : Int32)), (.int (108 : Int32)), (.int (105 : Int32)), (.int (101 : Int32)), (.int (110 : Int32)), (.int (116 : Int32)), (.int (95 : Int32)), (.int (115 : Int32)), (.int (101 : Int32)), (.int (99 : Int32)), (.int (114 : Int32)), (.int (101 : Int32)), (.int (116 : Int32)), (.int (0 : Int32)), (.int (0 : Int32)), (.int (0 : Int32)), (.int (0 : Int32)), (.int (0 : Int32)), (.int (0 : Int32))] (.int (0 : Int32)) := V14
  refine X14.dup i8_76 rfl ?_
  refine X14.bipush i8_77 (z := (13 : Int32)) rfl ?_
  refine X14.bipush i8_79 (z := (95 : Int32)) rfl ?_
  refine X14.castore i8_81 V14 ⟨by decide, by decide⟩ (i := 13) rfl (Nat.le_of_ble_eq_true rfl) (y := (95 : Int32)) rfl g1 fun T15 h15 X15 W15 V15 => ?_
  have V15 : Arv Z h15 a1 c1 .char (19 : Int32) [(.int (99 : Int32)), (.int (108 : Int32)), (.int (105 : Int32)), (.int (101 : Int32)), (.int (110 : Int32)), (.int (116 : Int32)), (.int (95 : Int32)), (.int (115 : Int32)), (.int (101 : Int32)), (.int (99 : Int32)), (.int (114 : Int32)), (.int (101 : Int32)), (.int (116 : Int32)), (.int (95 : Int32)), (.int (0 : Int32)), (.int (0 : Int32)), (.int (0 : Int32)), (.int (0 : Int32)), (.int (0 : Int32))] (.int (0 : Int32)) := V15
  refine X15.dup i8_82 rfl ?_
  refine X15.bipush i8_83 (z := (14 : Int32)) rfl ?_
  refine X15.bipush i8_85 (z := (112 : Int32)) rfl ?_
  refine X15.castore i8_87 V15 ⟨by decide, by decide⟩ (i := 14) rfl (Nat.le_of_ble_eq_true rfl) (y := (112 : Int32)) rfl g1 fun T16 h16 X16 W16 V16 => ?_
  have V16 : Arv Z h16 a1 c1 .char (19 : Int32) [(.int (99 : Int32)), (.int (108 : Int32)), (.int (105 : Int32)), (.int (101 : Int32)), (.int (110 : Int32)), (.int (116 : Int32)), (.int (95 : Int32)), (.int (115 : Int32)), (.int (101 : Int32)), (.int (99 : Int32)), (.int (114 : Int32)), (.int (101 : Int32)), (.int (116 : Int32)), (.int (95 : Int32)), (.int (112 : Int32)), (.int (0 : Int32)), (.int (0 : Int32)), (.int (0 : Int32)), (.int (0 : Int32))] (.int (0 : Int32)) := V16
  refine X16.dup i8_88 rfl ?_
  refine X16.bipush i8_89 (z := (15 : Int32)) rfl ?_
  refine X16.bipush i8_91 (z := (111 : Int32)) rfl ?_
  refine X16.castore i8_93 V16 ⟨by decide, by decide⟩ (i := 15) rfl (Nat.le_of_ble_eq_true rfl) (y := (111 : Int32)) rfl g1 fun T17 h17 X17 W17 V17 => ?_
  have V17 : Arv Z h17 a1 c1 .char (19 : Int32) [(.int (99 : Int32)), (.int (108 : Int32)), (.int (105 : Int32)), (.int (101 : Int32)), (.int (110 : Int32)), (.int (116 : Int32)), (.int (95 : Int32)), (.int (115 : Int32)), (.int (101 : Int32)), (.int (99 : Int32)), (.int (114 : Int32)), (.int (101 : Int32)), (.int (116 : Int32)), (.int (95 : Int32)), (.int (112 : Int32)), (.int (111 : Int32)), (.int (0 : Int32)), (.int (0 : Int32)), (.int (0 : Int32))] (.int (0 : Int32)) := V17
  refine X17.dup i8_94 rfl ?_
  refine X17.bipush i8_95 (z := (16 : Int32)) rfl ?_
  refine X17.bipush i8_97 (z := (115 : Int32)) rfl ?_
  refine X17.castore i8_99 V17 ⟨by decide, by decide⟩ (i := 16) rfl (Nat.le_of_ble_eq_true rfl) (y := (115 : Int32)) rfl g1 fun T18 h18 X18 W18 V18 => ?_
  have V18 : Arv Z h18 a1 c1 .char (19 : Int32) [(.int (99 : Int32)), (.int (108 : Int32)), (.int (105 : Int32)), (.int (101 : Int32)), (.int (110 : Int32)), (.int (116 : Int32)), (.int (95 : Int32)), (.int (115 : Int32)), (.int (101 : Int32)), (.int (99 : Int32)), (.int (114 : Int32)), (.int (101 : Int32)), (.int (116 : Int32)), (.int (95 : Int32)), (.int (112 : Int32)), (.int (111 : Int32)), (.int (115 : Int32)), (.int (0 : Int32)), (.int (0 : Int32))] (.int (0 : Int32)) := V18
  refine X18.dup i8_100 rfl ?_
  refine X18.bipush i8_101 (z := (17 : Int32)) rfl ?_
  refine X18.bipush i8_103 (z := (116 : Int32)) rfl ?_
  refine X18.castore i8_105 V18 ⟨by decide, by decide⟩ (i := 17) rfl (Nat.le_of_ble_eq_true rfl) (y := (116 : Int32)) rfl g1 fun T19 h19 X19 W19 V19 => ?_
  have V19 : Arv Z h19 a1 c1 .char (19 : Int32) [(.int (99 : Int32)), (.int (108 : Int32)), (.int (105 : Int32)), (.int (101 : Int32)), (.int (110 : Int32)), (.int (116 : Int32)), (.int (95 : Int32)), (.int (115 : Int32)), (.int (101 : Int32)), (.int (99 : Int32)), (.int (114 : Int32)), (.int (101 : Int32)), (.int (116 : Int32)), (.int (95 : Int32)), (.int (112 : Int32)), (.int (111 : Int32)), (.int (115 : Int32)), (.int (116 : Int32)), (.int (0 : Int32))] (.int (0 : Int32)) := V19
  refine X19.dup i8_106 rfl ?_
  refine X19.bipush i8_107 (z := (18 : Int32)) rfl ?_
  refine X19.iload_n i8_109 rfl ?_
  refine X19.castore i8_110 V19 ⟨by decide, by decide⟩ (i := 18) rfl (Nat.le_of_ble_eq_true rfl) (y := x) (own_i2c lx) g1 fun T20 h20 X20 W20 V20 => ?_
  have V20 : Arv Z h20 a1 c1 .char (19 : Int32) [(.int (99 : Int32)), (.int (108 : Int32)), (.int (105 : Int32)), (.int (101 : Int32)), (.int (110 : Int32)), (.int (116 : Int32)), (.int (95 : Int32)), (.int (115 : Int32)), (.int (101 : Int32)), (.int (99 : Int32)), (.int (114 : Int32)), (.int (101 : Int32)), (.int (116 : Int32)), (.int (95 : Int32)), (.int (112 : Int32)), (.int (111 : Int32)), (.int (115 : Int32)), (.int (116 : Int32)), (.int x)] (.int (0 : Int32)) := V20
  exact X20.areturn i8_111 rfl rfl rfl (by decide) (by decide) ⟨a1, c1, rfl, (ext_wr (ext_wr (ext_wr (ext_wr (ext_wr (ext_wr (ext_wr (ext_wr (ext_wr (ext_wr (ext_wr (ext_wr (ext_wr (ext_wr (ext_wr (ext_wr (ext_wr (ext_wr (ext_wr E1 W2 (Nat.le_of_eq z1)) W3 (Nat.le_of_eq z1)) W4 (Nat.le_of_eq z1)) W5 (Nat.le_of_eq z1)) W6 (Nat.le_of_eq z1)) W7 (Nat.le_of_eq z1)) W8 (Nat.le_of_eq z1)) W9 (Nat.le_of_eq z1)) W10 (Nat.le_of_eq z1)) W11 (Nat.le_of_eq z1)) W12 (Nat.le_of_eq z1)) W13 (Nat.le_of_eq z1)) W14 (Nat.le_of_eq z1)) W15 (Nat.le_of_eq z1)) W16 (Nat.le_of_eq z1)) W17 (Nat.le_of_eq z1)) W18 (Nat.le_of_eq z1)) W19 (Nat.le_of_eq z1)) W20 (Nat.le_of_eq z1)), (Nat.le_of_eq z1), V20⟩
set_option maxRecDepth 65536 in
set_option maxHeartbeats 40000000 in
theorem c_sh0 (l : Launch) {Z : State} {a0 : Array Value} {n0 : Nat} (hw : ∀ d ∈ tables_1, d.before a0 Z = true) (hEL : EW Z a0 own_EL) {zc : Int32} (hcs : Sta Z Z.heap "java/lang/String" "COMPACT_STRINGS" "Z" (.int zc)) (hcz : ¬ zc = 0) {eB eP mB tB mP tP : Addr} {bB bP : ClassId} (hSB : Sta Z Z.heap "com/example/grant/grant/providers/ClientAuthentication" "BASIC" "Lcom/example/grant/grant/providers/ClientAuthentication;" (.ref eB)) (hSP : Sta Z Z.heap "com/example/grant/grant/providers/ClientAuthentication" "POST" "Lcom/example/grant/grant/providers/ClientAuthentication;" (.ref eP)) (hFB : Fld Z Z.heap eB "com/example/grant/grant/providers/ClientAuthentication" "method" "Ljava/lang/String;" (.ref mB)) (hFP : Fld Z Z.heap eP "com/example/grant/grant/providers/ClientAuthentication" "method" "Ljava/lang/String;" (.ref mP)) (hTB : Str Z Z.heap mB tB bB own_csB) (hTP : Str Z Z.heap mP tP bP own_csP) {eV : Addr} {kV : ClassId} (hSV : Sta Z Z.heap "com/example/grant/grant/providers/ClientAuthentication" "$VALUES" "[Lcom/example/grant/grant/providers/ClientAuthentication;" (.ref eV)) (hEV : Exa Z Z.heap eV "[Lcom/example/grant/grant/providers/ClientAuthentication;") (hVV : Arv Z Z.heap eV kV (.object "com/example/grant/grant/providers/ClientAuthentication") (2 : Int32) [(.ref eB), (.ref eP)] .null) {h : Heap} (hO : Old Z n0 h) (x : Int32) (y : Int32) (z : Int32) (lx : own_lat x) (ly : own_lat y) (lz : own_lat z) :
    Con [] false l Z own_EL n0 [] (⟨"com/example/grant/grant/providers/ClientAuthenticationNamedPinLaw", "shortText", "(ICCC)[C"⟩ : MethodName) method_6_code 4 (some (.array .char)) ({ frames := 0, cells := 1, slots := 0, locals := 0 } : Room) #[(.int (0 : Int32)), (.int x), (.int y), (.int z)] h (fun v h' => ∃ (r : Addr) (kc : ClassId), v = some (.ref r) ∧ Ext h h' ∧ h.size ≤ r ∧ Arv Z h' r kc .char (0 : Int32) [] (.int (0 : Int32))) := by
  refine Con.intro (Ls := #[.val (.int (0 : Int32)), .val (.int x), .val (.int y), .val (.int z)]) pn9 hEL hO (fun m => by first | rfl | (simp [entryFrame, mkF, argsToLocals, Value.category]; done)) fun C vm T hl X hs => ?_
  have X : On C ({ frames := 0, cells := 1, slots := 0, locals := 0 } : Room) "com/example/grant/grant/providers/ClientAuthenticationNamedPinLaw" method_6_code 4 (some (.array .char)) "shortText" false Z a0 own_EL n0 vm T h 0 0 := X
  refine X.iload_n i9_0 rfl ?_
  refine X.ifN i9_1 (by decide) ?_
  refine X.iconst i9_4 (z := (0 : Int32)) rfl ?_
  refine X.newarray i9_5 (ty := .char) rfl (hw _ wd_4) (by decide) (cap := 0) (by decide) (by decide) (k' := 1) rfl (n' := 0) rfl (by decide) (by decide) fun T1 h1 a1 c1 X1 E1 z1 g1 V1 Sf1 => ?_
  have V1 : Arv Z h1 a1 c1 .char (0 : Int32) [] (.int (0 : Int32)) := V1.pad (pad_rep [] (.int (0 : Int32)) 0)
  exact X1.areturn i9_7 rfl rfl rfl (by decide) (by decide) ⟨a1, c1, rfl, E1, (Nat.le_of_eq z1), V1⟩
set_option maxRecDepth 65536 in
set_option maxHeartbeats 40000000 in
theorem c_sh1 (l : Launch) {Z : State} {a0 : Array Value} {n0 : Nat} (hw : ∀ d ∈ tables_1, d.before a0 Z = true) (hEL : EW Z a0 own_EL) {zc : Int32} (hcs : Sta Z Z.heap "java/lang/String" "COMPACT_STRINGS" "Z" (.int zc)) (hcz : ¬ zc = 0) {eB eP mB tB mP tP : Addr} {bB bP : ClassId} (hSB : Sta Z Z.heap "com/example/grant/grant/providers/ClientAuthentication" "BASIC" "Lcom/example/grant/grant/providers/ClientAuthentication;" (.ref eB)) (hSP : Sta Z Z.heap "com/example/grant/grant/providers/ClientAuthentication" "POST" "Lcom/example/grant/grant/providers/ClientAuthentication;" (.ref eP)) (hFB : Fld Z Z.heap eB "com/example/grant/grant/providers/ClientAuthentication" "method" "Ljava/lang/String;" (.ref mB)) (hFP : Fld Z Z.heap eP "com/example/grant/grant/providers/ClientAuthentication" "method" "Ljava/lang/String;" (.ref mP)) (hTB : Str Z Z.heap mB tB bB own_csB) (hTP : Str Z Z.heap mP tP bP own_csP) {eV : Addr} {kV : ClassId} (hSV : Sta Z Z.heap "com/example/grant/grant/providers/ClientAuthentication" "$VALUES" "[Lcom/example/grant/grant/providers/ClientAuthentication;" (.ref eV)) (hEV : Exa Z Z.heap eV "[Lcom/example/grant/grant/providers/ClientAuthentication;") (hVV : Arv Z Z.heap eV kV (.object "com/example/grant/grant/providers/ClientAuthentication") (2 : Int32) [(.ref eB), (.ref eP)] .null) {h : Heap} (hO : Old Z n0 h) (x : Int32) (y : Int32) (z : Int32) (lx : own_lat x) (ly : own_lat y) (lz : own_lat z) :
    Con [] false l Z own_EL n0 [] (⟨"com/example/grant/grant/providers/ClientAuthenticationNamedPinLaw", "shortText", "(ICCC)[C"⟩ : MethodName) method_6_code 4 (some (.array .char)) ({ frames := 0, cells := 1, slots := 1, locals := 0 } : Room) #[(.int (1 : Int32)), (.int x), (.int y), (.int z)] h (fun v h' => ∃ (r : Addr) (kc : ClassId), v = some (.ref r) ∧ Ext h h' ∧ h.size ≤ r ∧ Arv Z h' r kc .char (1 : Int32) [(.int x)] (.int (0 : Int32))) := by
  refine Con.intro (Ls := #[.val (.int (1 : Int32)), .val (.int x), .val (.int y), .val (.int z)]) pn9 hEL hO (fun m => by first | rfl | (simp [entryFrame, mkF, argsToLocals, Value.category]; done)) fun C vm T hl X hs => ?_
  have X : On C ({ frames := 0, cells := 1, slots := 1, locals := 0 } : Room) "com/example/grant/grant/providers/ClientAuthenticationNamedPinLaw" method_6_code 4 (some (.array .char)) "shortText" false Z a0 own_EL n0 vm T h 0 0 := X
  refine X.iload_n i9_0 rfl ?_
  refine X.ifY i9_1 j1_7 (by decide) ?_
  refine X.iload_n i9_8 rfl ?_
  refine X.iconst i9_9 (z := (1 : Int32)) rfl ?_
  refine X.icN i9_10 (by decide) ?_
  refine X.iconst i9_13 (z := (1 : Int32)) rfl ?_
  refine X.newarray i9_14 (ty := .char) rfl (hw _ wd_4) (by decide) (cap := 1) (by decide) (by decide) (k' := 1) rfl (n' := 1) rfl (by decide) (by decide) fun T1 h1 a1 c1 X1 E1 z1 g1 V1 Sf1 => ?_
  have V1 : Arv Z h1 a1 c1 .char (1 : Int32) [(.int (0 : Int32))] (.int (0 : Int32)) := V1.pad (pad_rep [] (.int (0 : Int32)) 1)
  refine X1.dup i9_16 rfl ?_
  refine X1.iconst i9_17 (z := (0 : Int32)) rfl ?_
  refine X1.iload_n i9_18 rfl ?_
  refine X1.castore i9_19 V1 ⟨by decide, by decide⟩ (i := 0) rfl (Nat.le_of_ble_eq_true rfl) (y := x) (own_i2c lx) g1 fun T2 h2 X2 W2 V2 => ?_
  have V2 : Arv Z h2 a1 c1 .char (1 : Int32) [(.int x)] (.int (0 : Int32)) := V2
  exact X2.areturn i9_20 rfl rfl rfl (by decide) (by decide) ⟨a1, c1, rfl, (ext_wr E1 W2 (Nat.le_of_eq z1)), (Nat.le_of_eq z1), V2⟩
set_option maxRecDepth 65536 in
set_option maxHeartbeats 40000000 in
theorem c_sh2 (l : Launch) {Z : State} {a0 : Array Value} {n0 : Nat} (hw : ∀ d ∈ tables_1, d.before a0 Z = true) (hEL : EW Z a0 own_EL) {zc : Int32} (hcs : Sta Z Z.heap "java/lang/String" "COMPACT_STRINGS" "Z" (.int zc)) (hcz : ¬ zc = 0) {eB eP mB tB mP tP : Addr} {bB bP : ClassId} (hSB : Sta Z Z.heap "com/example/grant/grant/providers/ClientAuthentication" "BASIC" "Lcom/example/grant/grant/providers/ClientAuthentication;" (.ref eB)) (hSP : Sta Z Z.heap "com/example/grant/grant/providers/ClientAuthentication" "POST" "Lcom/example/grant/grant/providers/ClientAuthentication;" (.ref eP)) (hFB : Fld Z Z.heap eB "com/example/grant/grant/providers/ClientAuthentication" "method" "Ljava/lang/String;" (.ref mB)) (hFP : Fld Z Z.heap eP "com/example/grant/grant/providers/ClientAuthentication" "method" "Ljava/lang/String;" (.ref mP)) (hTB : Str Z Z.heap mB tB bB own_csB) (hTP : Str Z Z.heap mP tP bP own_csP) {eV : Addr} {kV : ClassId} (hSV : Sta Z Z.heap "com/example/grant/grant/providers/ClientAuthentication" "$VALUES" "[Lcom/example/grant/grant/providers/ClientAuthentication;" (.ref eV)) (hEV : Exa Z Z.heap eV "[Lcom/example/grant/grant/providers/ClientAuthentication;") (hVV : Arv Z Z.heap eV kV (.object "com/example/grant/grant/providers/ClientAuthentication") (2 : Int32) [(.ref eB), (.ref eP)] .null) {h : Heap} (hO : Old Z n0 h) (x : Int32) (y : Int32) (z : Int32) (lx : own_lat x) (ly : own_lat y) (lz : own_lat z) :
    Con [] false l Z own_EL n0 [] (⟨"com/example/grant/grant/providers/ClientAuthenticationNamedPinLaw", "shortText", "(ICCC)[C"⟩ : MethodName) method_6_code 4 (some (.array .char)) ({ frames := 0, cells := 1, slots := 2, locals := 0 } : Room) #[(.int (2 : Int32)), (.int x), (.int y), (.int z)] h (fun v h' => ∃ (r : Addr) (kc : ClassId), v = some (.ref r) ∧ Ext h h' ∧ h.size ≤ r ∧ Arv Z h' r kc .char (2 : Int32) [(.int x), (.int y)] (.int (0 : Int32))) := by
  refine Con.intro (Ls := #[.val (.int (2 : Int32)), .val (.int x), .val (.int y), .val (.int z)]) pn9 hEL hO (fun m => by first | rfl | (simp [entryFrame, mkF, argsToLocals, Value.category]; done)) fun C vm T hl X hs => ?_
  have X : On C ({ frames := 0, cells := 1, slots := 2, locals := 0 } : Room) "com/example/grant/grant/providers/ClientAuthenticationNamedPinLaw" method_6_code 4 (some (.array .char)) "shortText" false Z a0 own_EL n0 vm T h 0 0 := X
  refine X.iload_n i9_0 rfl ?_
  refine X.ifY i9_1 j1_7 (by decide) ?_
  refine X.iload_n i9_8 rfl ?_
  refine X.iconst i9_9 (z := (1 : Int32)) rfl ?_
  refine X.icY i9_10 j10_11 (by decide) ?_
  refine X.iload_n i9_21 rfl ?_
  refine X.iconst i9_22 (z := (2 : Int32)) rfl ?_
  refine X.icN i9_23 (by decide) ?_
  refine X.iconst i9_26 (z := (2 : Int32)) rfl ?_
  refine X.newarray i9_27 (ty := .char) rfl (hw _ wd_4) (by decide) (cap := 2) (by decide) (by decide) (k' := 1) rfl (n' := 2) rfl (by decide) (by decide) fun T1 h1 a1 c1 X1 E1 z1 g1 V1 Sf1 => ?_
  have V1 : Arv Z h1 a1 c1 .char (2 : Int32) [(.int (0 : Int32)), (.int (0 : Int32))] (.int (0 : Int32)) := V1.pad (pad_rep [] (.int (0 : Int32)) 2)
  refine X1.dup i9_29 rfl ?_
  refine X1.iconst i9_30 (z := (0 : Int32)) rfl ?_
  refine X1.iload_n i9_31 rfl ?_
  refine X1.castore i9_32 V1 ⟨by decide, by decide⟩ (i := 0) rfl (Nat.le_of_ble_eq_true rfl) (y := x) (own_i2c lx) g1 fun T2 h2 X2 W2 V2 => ?_
  have V2 : Arv Z h2 a1 c1 .char (2 : Int32) [(.int x), (.int (0 : Int32))] (.int (0 : Int32)) := V2
  refine X2.dup i9_33 rfl ?_
  refine X2.iconst i9_34 (z := (1 : Int32)) rfl ?_
  refine X2.iload_n i9_35 rfl ?_
  refine X2.castore i9_36 V2 ⟨by decide, by decide⟩ (i := 1) rfl (Nat.le_of_ble_eq_true rfl) (y := y) (own_i2c ly) g1 fun T3 h3 X3 W3 V3 => ?_
  have V3 : Arv Z h3 a1 c1 .char (2 : Int32) [(.int x), (.int y)] (.int (0 : Int32)) := V3
  exact X3.areturn i9_37 rfl rfl rfl (by decide) (by decide) ⟨a1, c1, rfl, (ext_wr (ext_wr E1 W2 (Nat.le_of_eq z1)) W3 (Nat.le_of_eq z1)), (Nat.le_of_eq z1), V3⟩
set_option maxRecDepth 65536 in
set_option maxHeartbeats 40000000 in
theorem c_sh3 (l : Launch) {Z : State} {a0 : Array Value} {n0 : Nat} (hw : ∀ d ∈ tables_1, d.before a0 Z = true) (hEL : EW Z a0 own_EL) {zc : Int32} (hcs : Sta Z Z.heap "java/lang/String" "COMPACT_STRINGS" "Z" (.int zc)) (hcz : ¬ zc = 0) {eB eP mB tB mP tP : Addr} {bB bP : ClassId} (hSB : Sta Z Z.heap "com/example/grant/grant/providers/ClientAuthentication" "BASIC" "Lcom/example/grant/grant/providers/ClientAuthentication;" (.ref eB)) (hSP : Sta Z Z.heap "com/example/grant/grant/providers/ClientAuthentication" "POST" "Lcom/example/grant/grant/providers/ClientAuthentication;" (.ref eP)) (hFB : Fld Z Z.heap eB "com/example/grant/grant/providers/ClientAuthentication" "method" "Ljava/lang/String;" (.ref mB)) (hFP : Fld Z Z.heap eP "com/example/grant/grant/providers/ClientAuthentication" "method" "Ljava/lang/String;" (.ref mP)) (hTB : Str Z Z.heap mB tB bB own_csB) (hTP : Str Z Z.heap mP tP bP own_csP) {eV : Addr} {kV : ClassId} (hSV : Sta Z Z.heap "com/example/grant/grant/providers/ClientAuthentication" "$VALUES" "[Lcom/example/grant/grant/providers/ClientAuthentication;" (.ref eV)) (hEV : Exa Z Z.heap eV "[Lcom/example/grant/grant/providers/ClientAuthentication;") (hVV : Arv Z Z.heap eV kV (.object "com/example/grant/grant/providers/ClientAuthentication") (2 : Int32) [(.ref eB), (.ref eP)] .null) {h : Heap} (hO : Old Z n0 h) (x : Int32) (y : Int32) (z : Int32) (lx : own_lat x) (ly : own_lat y) (lz : own_lat z) :
    Con [] false l Z own_EL n0 [] (⟨"com/example/grant/grant/providers/ClientAuthenticationNamedPinLaw", "shortText", "(ICCC)[C"⟩ : MethodName) method_6_code 4 (some (.array .char)) ({ frames := 0, cells := 1, slots := 3, locals := 0 } : Room) #[(.int (3 : Int32)), (.int x), (.int y), (.int z)] h (fun v h' => ∃ (r : Addr) (kc : ClassId), v = some (.ref r) ∧ Ext h h' ∧ h.size ≤ r ∧ Arv Z h' r kc .char (3 : Int32) [(.int x), (.int y), (.int z)] (.int (0 : Int32))) := by
  refine Con.intro (Ls := #[.val (.int (3 : Int32)), .val (.int x), .val (.int y), .val (.int z)]) pn9 hEL hO (fun m => by first | rfl | (simp [entryFrame, mkF, argsToLocals, Value.category]; done)) fun C vm T hl X hs => ?_
  have X : On C ({ frames := 0, cells := 1, slots := 3, locals := 0 } : Room) "com/example/grant/grant/providers/ClientAuthenticationNamedPinLaw" method_6_code 4 (some (.array .char)) "shortText" false Z a0 own_EL n0 vm T h 0 0 := X
  refine X.iload_n i9_0 rfl ?_
  refine X.ifY i9_1 j1_7 (by decide) ?_
  refine X.iload_n i9_8 rfl ?_
  refine X.iconst i9_9 (z := (1 : Int32)) rfl ?_
  refine X.icY i9_10 j10_11 (by decide) ?_
  refine X.iload_n i9_21 rfl ?_
  refine X.iconst i9_22 (z := (2 : Int32)) rfl ?_
  refine X.icY i9_23 j23_15 (by decide) ?_
  refine X.iconst i9_38 (z := (3 : Int32)) rfl ?_
  refine X.newarray i9_39 (ty := .char) rfl (hw _ wd_4) (by decide) (cap := 3) (by decide) (by decide) (k' := 1) rfl (n' := 3) rfl (by decide) (by decide) fun T1 h1 a1 c1 X1 E1 z1 g1 V1 Sf1 => ?_
  have V1 : Arv Z h1 a1 c1 .char (3 : Int32) [(.int (0 : Int32)), (.int (0 : Int32)), (.int (0 : Int32))] (.int (0 : Int32)) := V1.pad (pad_rep [] (.int (0 : Int32)) 3)
  refine X1.dup i9_41 rfl ?_
  refine X1.iconst i9_42 (z := (0 : Int32)) rfl ?_
  refine X1.iload_n i9_43 rfl ?_
  refine X1.castore i9_44 V1 ⟨by decide, by decide⟩ (i := 0) rfl (Nat.le_of_ble_eq_true rfl) (y := x) (own_i2c lx) g1 fun T2 h2 X2 W2 V2 => ?_
  have V2 : Arv Z h2 a1 c1 .char (3 : Int32) [(.int x), (.int (0 : Int32)), (.int (0 : Int32))] (.int (0 : Int32)) := V2
  refine X2.dup i9_45 rfl ?_
  refine X2.iconst i9_46 (z := (1 : Int32)) rfl ?_
  refine X2.iload_n i9_47 rfl ?_
  refine X2.castore i9_48 V2 ⟨by decide, by decide⟩ (i := 1) rfl (Nat.le_of_ble_eq_true rfl) (y := y) (own_i2c ly) g1 fun T3 h3 X3 W3 V3 => ?_
  have V3 : Arv Z h3 a1 c1 .char (3 : Int32) [(.int x), (.int y), (.int (0 : Int32))] (.int (0 : Int32)) := V3
  refine X3.dup i9_49 rfl ?_
  refine X3.iconst i9_50 (z := (2 : Int32)) rfl ?_
  refine X3.iload_n i9_51 rfl ?_
  refine X3.castore i9_52 V3 ⟨by decide, by decide⟩ (i := 2) rfl (Nat.le_of_ble_eq_true rfl) (y := z) (own_i2c lz) g1 fun T4 h4 X4 W4 V4 => ?_
  have V4 : Arv Z h4 a1 c1 .char (3 : Int32) [(.int x), (.int y), (.int z)] (.int (0 : Int32)) := V4
  exact X4.areturn i9_53 rfl rfl rfl (by decide) (by decide) ⟨a1, c1, rfl, (ext_wr (ext_wr (ext_wr E1 W2 (Nat.le_of_eq z1)) W3 (Nat.le_of_eq z1)) W4 (Nat.le_of_eq z1)), (Nat.le_of_eq z1), V4⟩
theorem ef_law (m : MethodId) (p0 : Int32) (p1 : Int32) (p2 : Int32) (p3 : Int32) : entryFrame m #[(.int p0), (.int p1), (.int p2), (.int p3)] maxLocals = mkF m 0 #[.val (.int p0), .val (.int p1), .val (.int p2), .val (.int p3), .unset, .unset, .unset, .unset, .unset, .unset, .unset, .unset, .unset] [] := by first | (simp [entryFrame, mkF, argsToLocals, Value.category, maxLocals]; done) | rfl
set_option maxRecDepth 65536 in
set_option maxHeartbeats 40000000 in
theorem own_law (l : Launch) {Z : State} {a0 : Array Value} (hw : ∀ d ∈ tables_1, d.before a0 Z = true) (hEL : EW Z a0 own_EL) {zc : Int32} (hcs : Sta Z Z.heap "java/lang/String" "COMPACT_STRINGS" "Z" (.int zc)) (hcz : ¬ zc = 0) {eB eP mB tB mP tP : Addr} {bB bP : ClassId} (hSB : Sta Z Z.heap "com/example/grant/grant/providers/ClientAuthentication" "BASIC" "Lcom/example/grant/grant/providers/ClientAuthentication;" (.ref eB)) (hSP : Sta Z Z.heap "com/example/grant/grant/providers/ClientAuthentication" "POST" "Lcom/example/grant/grant/providers/ClientAuthentication;" (.ref eP)) (hFB : Fld Z Z.heap eB "com/example/grant/grant/providers/ClientAuthentication" "method" "Ljava/lang/String;" (.ref mB)) (hFP : Fld Z Z.heap eP "com/example/grant/grant/providers/ClientAuthentication" "method" "Ljava/lang/String;" (.ref mP)) (hTB : Str Z Z.heap mB tB bB own_csB) (hTP : Str Z Z.heap mP tP bP own_csP) {eV : Addr} {kV : ClassId} (hSV : Sta Z Z.heap "com/example/grant/grant/providers/ClientAuthentication" "$VALUES" "[Lcom/example/grant/grant/providers/ClientAuthentication;" (.ref eV)) (hEV : Exa Z Z.heap eV "[Lcom/example/grant/grant/providers/ClientAuthentication;") (hVV : Arv Z Z.heap eV kV (.object "com/example/grant/grant/providers/ClientAuthentication") (2 : Int32) [(.ref eB), (.ref eP)] .null) (p0 : Int32) (p1 : Int32) (p2 : Int32) (p3 : Int32)  :
    Con tables_1 false l Z own_EL Z.heap.size [] x code maxLocals ret room_1 #[(.int p0), (.int p1), (.int p2), (.int p3)] Z.heap (fun v h' => v = some (.int (1 : Int32))) := by
  have hml : maxLocals = 13 := rfl
  refine Con.intro pn10 hEL (Old.start Z) (fun m => ef_law m p0 p1 p2 p3) fun C vm T hl X hs => ?_
  have X : On C room_1 "com/example/grant/grant/providers/ClientAuthenticationNamedPinLaw" code 13 (some .boolean) "law" false Z a0 own_EL Z.heap.size vm T Z.heap 0 0 := X
  refine X.iload_n i10_0 rfl ?_
  refine X.iconst i10_1 (z := (1 : Int32)) rfl ?_
  refine X.iand i10_2 (z := (p3 &&& (1 : Int32))) rfl ?_
  have J11 : ∀ (pb : Int32) (hpb : pb = 0 ∨ pb = 1), Go C room_1 false Z own_EL Z.heap.size (fun v h' => v = some (.int (1 : Int32))) T 11 #[.val (.int p0), .val (.int p1), .val (.int p2), .val (.int p3), .unset, .unset, .unset, .unset, .unset, .unset, .unset, .unset, .unset] [(.int pb)] := by
    intro pb hpb
    refine X.istore i10_11 (Ls' := #[.val (.int p0), .val (.int p1), .val (.int p2), .val (.int p3), .val (.int pb), .unset, .unset, .unset, .unset, .unset, .unset, .unset, .unset]) rfl ?_
    refine X.iload_n i10_13 rfl ?_
    refine X.iconst i10_14 (z := (4 : Int32)) rfl ?_
    refine X.iand i10_15 (z := (p0 &&& (4 : Int32))) rfl ?_
    have J24 : ∀ (mb : Int32) (hmb : mb = 0 ∨ mb = 1), Go C room_1 false Z own_EL Z.heap.size (fun v h' => v = some (.int (1 : Int32))) T 24 #[.val (.int p0), .val (.int p1), .val (.int p2), .val (.int p3), .val (.int pb), .unset, .unset, .unset, .unset, .unset, .unset, .unset, .unset] [(.int mb)] := by
      intro mb hmb
      obtain ⟨kd, hkd⟩ : ∃ z, (p0 &&& (3 : Int32)) = z := ⟨_, rfl⟩
      have hk4 := own_and3 p0
      rw [hkd] at hk4
      refine X.istore i10_24 (Ls' := #[.val (.int p0), .val (.int p1), .val (.int p2), .val (.int p3), .val (.int pb), .val (.int mb), .unset, .unset, .unset, .unset, .unset, .unset, .unset]) rfl ?_
      refine X.iload_n i10_26 rfl ?_
      refine X.sipush i10_27 (z := (255 : Int32)) rfl ?_
      refine X.iand i10_30 (z := (p2 &&& (255 : Int32))) rfl ?_
      refine X.i2c i10_31 (z := (p2 &&& (255 : Int32))) (i2c_mask _) ?_
      refine X.istore i10_32 (Ls' := #[.val (.int p0), .val (.int p1), .val (.int p2), .val (.int p3), .val (.int pb), .val (.int mb), .val (.int (p2 &&& (255 : Int32))), .unset, .unset, .unset, .unset, .unset, .unset]) rfl ?_
      refine X.iload_n i10_34 rfl ?_
      refine X.bipush i10_35 (z := (8 : Int32)) rfl ?_
      refine X.iushr i10_37 (z := ((p2.toUInt32 >>> ((8 : Int32) &&& 31).toUInt32).toInt32)) rfl ?_
      refine X.sipush i10_38 (z := (255 : Int32)) rfl ?_
      refine X.iand i10_41 (z := (((p2.toUInt32 >>> ((8 : Int32) &&& 31).toUInt32).toInt32) &&& (255 : Int32))) rfl ?_
      refine X.i2c i10_42 (z := (((p2.toUInt32 >>> ((8 : Int32) &&& 31).toUInt32).toInt32) &&& (255 : Int32))) (i2c_mask _) ?_
      refine X.istore i10_43 (Ls' := #[.val (.int p0), .val (.int p1), .val (.int p2), .val (.int p3), .val (.int pb), .val (.int mb), .val (.int (p2 &&& (255 : Int32))), .val (.int (((p2.toUInt32 >>> ((8 : Int32) &&& 31).toUInt32).toInt32) &&& (255 : Int32))), .unset, .unset, .unset, .unset, .unset]) rfl ?_
      refine X.iload_n i10_45 rfl ?_
      refine X.bipush i10_46 (z := (16 : Int32)) rfl ?_
      refine X.iushr i10_48 (z := ((p2.toUInt32 >>> ((16 : Int32) &&& 31).toUInt32).toInt32)) rfl ?_
      refine X.sipush i10_49 (z := (255 : Int32)) rfl ?_
      refine X.iand i10_52 (z := (((p2.toUInt32 >>> ((16 : Int32) &&& 31).toUInt32).toInt32) &&& (255 : Int32))) rfl ?_
      refine X.i2c i10_53 (z := (((p2.toUInt32 >>> ((16 : Int32) &&& 31).toUInt32).toInt32) &&& (255 : Int32))) (i2c_mask _) ?_
      refine X.istore i10_54 (Ls' := #[.val (.int p0), .val (.int p1), .val (.int p2), .val (.int p3), .val (.int pb), .val (.int mb), .val (.int (p2 &&& (255 : Int32))), .val (.int (((p2.toUInt32 >>> ((8 : Int32) &&& 31).toUInt32).toInt32) &&& (255 : Int32))), .val (.int (((p2.toUInt32 >>> ((16 : Int32) &&& 31).toUInt32).toInt32) &&& (255 : Int32))), .unset, .unset, .unset, .unset]) rfl ?_
      refine X.iload_n i10_56 rfl ?_
      refine X.iconst i10_57 (z := (3 : Int32)) rfl ?_
      refine X.iand i10_58 (z := kd) hkd ?_
      refine X.istore i10_59 (Ls' := #[.val (.int p0), .val (.int p1), .val (.int p2), .val (.int p3), .val (.int pb), .val (.int mb), .val (.int (p2 &&& (255 : Int32))), .val (.int (((p2.toUInt32 >>> ((8 : Int32) &&& 31).toUInt32).toInt32) &&& (255 : Int32))), .val (.int (((p2.toUInt32 >>> ((16 : Int32) &&& 31).toUInt32).toInt32) &&& (255 : Int32))), .val (.int kd), .unset, .unset, .unset]) rfl ?_
      have J191a : ∀ (vm' : Vm) (T' : State) (h' : Heap) (X' : On C room_1 "com/example/grant/grant/providers/ClientAuthenticationNamedPinLaw" code 13 (some .boolean) "law" false Z a0 own_EL Z.heap.size vm' T' h' 8 70) (E' : Ext Z.heap h') (r' : CHr Z own_EL vm Z.heap vm' h') (s : Addr) (t : Addr) (b : ClassId) (cs : List Int32) (lc : cs.length ≤ 4000) (S' : Str Z h' s t b cs) (u : Addr) (ix : Int32), Go C room_1 false Z own_EL Z.heap.size (fun v h' => v = some (.int (1 : Int32))) T' 191 #[.val (.int p0), .val (.int p1), .val (.int p2), .val (.int p3), .val (.int pb), .val (.int mb), .val (.int (p2 &&& (255 : Int32))), .val (.int (((p2.toUInt32 >>> ((8 : Int32) &&& 31).toUInt32).toInt32) &&& (255 : Int32))), .val (.int (((p2.toUInt32 >>> ((16 : Int32) &&& 31).toUInt32).toInt32) &&& (255 : Int32))), .val (.int kd), .val (.ref s), .val (.ref u), .val (.int ix)] [] := by
        intro vm' T' h' X' E' r' s t b cs lc S' u ix
        refine X'.aload i10_191 rfl rfl ?_
        refine X'.nonnullY i10_193 j193_9 ?_
        refine X'.aload i10_202 rfl rfl ?_
        refine X'.ldcS rfl (cs := [(99 : Int32), (108 : Int32), (105 : Int32), (101 : Int32), (110 : Int32), (116 : Int32), (95 : Int32), (115 : Int32), (101 : Int32), (99 : Int32), (114 : Int32), (101 : Int32), (116 : Int32), (95 : Int32), (98 : Int32), (97 : Int32), (115 : Int32), (105 : Int32), (99 : Int32)]) i10_204 (hw _ wd_34) (own_wS hw) (List.mem_of_getElem? (i := 0) rfl) lt1_a lt1_b lt1_c (Nat.le_of_ble_eq_true rfl) (nn := 76) (Nat.le_of_eq lt1_d) (by decide) (k' := 10) rfl (n' := 150) rfl (by decide) (by decide) fun vm1 T1 h1 a1 t1 b1 X1 E1 r1 S1 ne1 => ?_
        have S2 := (S'.ext E1)
        refine own_strEq X1 hw i10_206 (hw _ wd_37) S2 S1 lc (Nat.le_of_ble_eq_true rfl) hcs hcz rfl (W := 0) rfl (by decide) (by decide) (by decide) (by decide) fun T3 r3 X3 q3 => ?_
        rcases q3 with ⟨rfl, he⟩ | ⟨rfl, he⟩
        · skip
          refine X3.ifN i10_209 (by decide) ?_
          refine X3.getstatic i10_212 (hw _ wd_86) Via.refl (hSB.ext X3.ext0) fun T4 X4 => ?_
          refine X4.astore i10_215 rfl (Ls' := #[.val (.int p0), .val (.int p1), .val (.int p2), .val (.int p3), .val (.int pb), .val (.int mb), .val (.int (p2 &&& (255 : Int32))), .val (.int (((p2.toUInt32 >>> ((8 : Int32) &&& 31).toUInt32).toInt32) &&& (255 : Int32))), .val (.int (((p2.toUInt32 >>> ((16 : Int32) &&& 31).toUInt32).toInt32) &&& (255 : Int32))), .val (.int kd), .val (.ref s), .val (.ref eB), .val (.int ix)]) rfl ?_
          refine X4.goto i10_217 j217_24 ?_
          refine X4.aload i10_241 rfl rfl ?_
          refine X4.callS hl (argsL := [(.ref s)]) i10_243 (c_named l hw hEL hcs hcz hSB hSP hFB hFP hTB hTP hSV hEV hVV X4.old s t b cs S2 lc) (hw _ wd_51) (hw _ wd_52) (hw _ wd_49) (hw _ wd_53) (by decide) sf_nil pd3 rfl rfl rfl (W := 0) rfl (by decide) (by decide) (k' := 11) rfl (n' := 152) rfl (by decide) (by decide) fun vm5 T5 h5 v5 X5 r5 Q5 => ?_
          obtain ⟨r_5, rfl, q5_0, q5_1⟩ := Q5
          show Go _ _ _ _ _ _ _ T5 246 #[.val (.int p0), .val (.int p1), .val (.int p2), .val (.int p3), .val (.int pb), .val (.int mb), .val (.int (p2 &&& (255 : Int32))), .val (.int (((p2.toUInt32 >>> ((8 : Int32) &&& 31).toUInt32).toInt32) &&& (255 : Int32))), .val (.int (((p2.toUInt32 >>> ((16 : Int32) &&& 31).toUInt32).toInt32) &&& (255 : Int32))), .val (.int kd), .val (.ref s), .val (.ref eB), .val (.int ix)] [r_5]
          rcases q5_1.2 with ⟨rfl, e1⟩ | ⟨rfl, e1, e2⟩ | ⟨rfl, e1, e2⟩
          · skip
            refine X5.aload i10_246 rfl rfl ?_
            refine X5.acN i10_248 rfl rfl (XT.aa_ne_f rfl) ?_
            refine X5.iconst i10_251 (z := (1 : Int32)) rfl ?_
            refine X5.goto i10_252 j252_4 ?_
            exact X5.ireturn i10_256 (t := .boolean) rfl (by decide) rfl (by decide) (by decide) rfl
          · skip
            exact absurd he.symm e1
          · skip
            exact absurd he.symm e1
        · skip
          refine X3.ifY i10_209 j209_11 (by decide) ?_
          refine X3.aload i10_220 rfl rfl ?_
          refine X3.ldcS rfl (cs := [(99 : Int32), (108 : Int32), (105 : Int32), (101 : Int32), (110 : Int32), (116 : Int32), (95 : Int32), (115 : Int32), (101 : Int32), (99 : Int32), (114 : Int32), (101 : Int32), (116 : Int32), (95 : Int32), (112 : Int32), (111 : Int32), (115 : Int32), (116 : Int32)]) i10_222 (hw _ wd_47) (own_wS hw) (List.mem_of_getElem? (i := 1) rfl) lt2_a lt2_b lt2_c (Nat.le_of_ble_eq_true rfl) (nn := 72) (Nat.le_of_eq lt2_d) (by decide) (k' := 12) rfl (n' := 226) rfl (by decide) (by decide) fun vm6 T6 h6 a6 t6 b6 X6 E6 r6 S6 ne6 => ?_
          have S7 := (S2.ext E6)
          refine own_strEq X6 hw i10_224 (hw _ wd_37) S7 S6 lc (Nat.le_of_ble_eq_true rfl) hcs hcz rfl (W := 0) rfl (by decide) (by decide) (by decide) (by decide) fun T8 r8 X8 q8 => ?_
          rcases q8 with ⟨rfl, hf⟩ | ⟨rfl, hf⟩
          · skip
            refine X8.ifN i10_227 (by decide) ?_
            refine X8.getstatic i10_230 (hw _ wd_48) Via.refl (hSP.ext X8.ext0) fun T9 X9 => ?_
            refine X9.astore i10_233 rfl (Ls' := #[.val (.int p0), .val (.int p1), .val (.int p2), .val (.int p3), .val (.int pb), .val (.int mb), .val (.int (p2 &&& (255 : Int32))), .val (.int (((p2.toUInt32 >>> ((8 : Int32) &&& 31).toUInt32).toInt32) &&& (255 : Int32))), .val (.int (((p2.toUInt32 >>> ((16 : Int32) &&& 31).toUInt32).toInt32) &&& (255 : Int32))), .val (.int kd), .val (.ref s), .val (.ref eP), .val (.int ix)]) rfl ?_
            refine X9.goto i10_235 j235_6 ?_
            refine X9.aload i10_241 rfl rfl ?_
            refine X9.callS hl (argsL := [(.ref s)]) i10_243 (c_named l hw hEL hcs hcz hSB hSP hFB hFP hTB hTP hSV hEV hVV X9.old s t b cs S7 lc) (hw _ wd_51) (hw _ wd_52) (hw _ wd_49) (hw _ wd_53) (by decide) sf_nil pd3 rfl rfl rfl (W := 0) rfl (by decide) (by decide) (k' := 13) rfl (n' := 228) rfl (by decide) (by decide) fun vm10 T10 h10 v10 X10 r10 Q10 => ?_
            obtain ⟨r_10, rfl, q10_0, q10_1⟩ := Q10
            show Go _ _ _ _ _ _ _ T10 246 #[.val (.int p0), .val (.int p1), .val (.int p2), .val (.int p3), .val (.int pb), .val (.int mb), .val (.int (p2 &&& (255 : Int32))), .val (.int (((p2.toUInt32 >>> ((8 : Int32) &&& 31).toUInt32).toInt32) &&& (255 : Int32))), .val (.int (((p2.toUInt32 >>> ((16 : Int32) &&& 31).toUInt32).toInt32) &&& (255 : Int32))), .val (.int kd), .val (.ref s), .val (.ref eP), .val (.int ix)] [r_10]
            rcases q10_1.2 with ⟨rfl, e1⟩ | ⟨rfl, e1, e2⟩ | ⟨rfl, e1, e2⟩
            · skip
              exact absurd e1.symm he
            · skip
              refine X10.aload i10_246 rfl rfl ?_
              refine X10.acN i10_248 rfl rfl (XT.aa_ne_f rfl) ?_
              refine X10.iconst i10_251 (z := (1 : Int32)) rfl ?_
              refine X10.goto i10_252 j252_4 ?_
              exact X10.ireturn i10_256 (t := .boolean) rfl (by decide) rfl (by decide) (by decide) rfl
            · skip
              exact absurd hf.symm e2
          · skip
            refine X8.ifY i10_227 j227_11 (by decide) ?_
            refine X8.aconst_null i10_238 ?_
            refine X8.astore i10_239 rfl (Ls' := #[.val (.int p0), .val (.int p1), .val (.int p2), .val (.int p3), .val (.int pb), .val (.int mb), .val (.int (p2 &&& (255 : Int32))), .val (.int (((p2.toUInt32 >>> ((8 : Int32) &&& 31).toUInt32).toInt32) &&& (255 : Int32))), .val (.int (((p2.toUInt32 >>> ((16 : Int32) &&& 31).toUInt32).toInt32) &&& (255 : Int32))), .val (.int kd), .val (.ref s), .val .null, .val (.int ix)]) rfl ?_
            refine X8.aload i10_241 rfl rfl ?_
            refine X8.callS hl (argsL := [(.ref s)]) i10_243 (c_named l hw hEL hcs hcz hSB hSP hFB hFP hTB hTP hSV hEV hVV X8.old s t b cs S7 lc) (hw _ wd_51) (hw _ wd_52) (hw _ wd_49) (hw _ wd_53) (by decide) sf_nil pd3 rfl rfl rfl (W := 0) rfl (by decide) (by decide) (k' := 13) rfl (n' := 228) rfl (by decide) (by decide) fun vm11 T11 h11 v11 X11 r11 Q11 => ?_
            obtain ⟨r_11, rfl, q11_0, q11_1⟩ := Q11
            show Go _ _ _ _ _ _ _ T11 246 #[.val (.int p0), .val (.int p1), .val (.int p2), .val (.int p3), .val (.int pb), .val (.int mb), .val (.int (p2 &&& (255 : Int32))), .val (.int (((p2.toUInt32 >>> ((8 : Int32) &&& 31).toUInt32).toInt32) &&& (255 : Int32))), .val (.int (((p2.toUInt32 >>> ((16 : Int32) &&& 31).toUInt32).toInt32) &&& (255 : Int32))), .val (.int kd), .val (.ref s), .val .null, .val (.int ix)] [r_11]
            rcases q11_1.2 with ⟨rfl, e1⟩ | ⟨rfl, e1, e2⟩ | ⟨rfl, e1, e2⟩
            · skip
              exact absurd e1.symm he
            · skip
              exact absurd e2.symm hf
            · skip
              refine X11.aload i10_246 rfl rfl ?_
              refine X11.acN i10_248 rfl rfl (XT.aa_ne_f rfl) ?_
              refine X11.iconst i10_251 (z := (1 : Int32)) rfl ?_
              refine X11.goto i10_252 j252_4 ?_
              exact X11.ireturn i10_256 (t := .boolean) rfl (by decide) rfl (by decide) (by decide) rfl
      have J191b : ∀ (vm' : Vm) (T' : State) (h' : Heap) (X' : On C room_1 "com/example/grant/grant/providers/ClientAuthenticationNamedPinLaw" code 13 (some .boolean) "law" false Z a0 own_EL Z.heap.size vm' T' h' 8 70) (E' : Ext Z.heap h') (r' : CHr Z own_EL vm Z.heap vm' h') (s : Addr) (t : Addr) (b : ClassId) (cs : List Int32) (lc : cs.length ≤ 4000) (S' : Str Z h' s t b cs) (u : Addr), Go C room_1 false Z own_EL Z.heap.size (fun v h' => v = some (.int (1 : Int32))) T' 191 #[.val (.int p0), .val (.int p1), .val (.int p2), .val (.int p3), .val (.int pb), .val (.int mb), .val (.int (p2 &&& (255 : Int32))), .val (.int (((p2.toUInt32 >>> ((8 : Int32) &&& 31).toUInt32).toInt32) &&& (255 : Int32))), .val (.int (((p2.toUInt32 >>> ((16 : Int32) &&& 31).toUInt32).toInt32) &&& (255 : Int32))), .val (.int kd), .val (.ref s), .val (.ref u), .unset] [] := by
        intro vm' T' h' X' E' r' s t b cs lc S' u
        refine X'.aload i10_191 rfl rfl ?_
        refine X'.nonnullY i10_193 j193_9 ?_
        refine X'.aload i10_202 rfl rfl ?_
        refine X'.ldcS rfl (cs := [(99 : Int32), (108 : Int32), (105 : Int32), (101 : Int32), (110 : Int32), (116 : Int32), (95 : Int32), (115 : Int32), (101 : Int32), (99 : Int32), (114 : Int32), (101 : Int32), (116 : Int32), (95 : Int32), (98 : Int32), (97 : Int32), (115 : Int32), (105 : Int32), (99 : Int32)]) i10_204 (hw _ wd_34) (own_wS hw) (List.mem_of_getElem? (i := 0) rfl) lt1_a lt1_b lt1_c (Nat.le_of_ble_eq_true rfl) (nn := 76) (Nat.le_of_eq lt1_d) (by decide) (k' := 10) rfl (n' := 150) rfl (by decide) (by decide) fun vm12 T12 h12 a12 t12 b12 X12 E12 r12 S12 ne12 => ?_
        have S13 := (S'.ext E12)
        refine own_strEq X12 hw i10_206 (hw _ wd_37) S13 S12 lc (Nat.le_of_ble_eq_true rfl) hcs hcz rfl (W := 0) rfl (by decide) (by decide) (by decide) (by decide) fun T14 r14 X14 q14 => ?_
        rcases q14 with ⟨rfl, he⟩ | ⟨rfl, he⟩
        · skip
          refine X14.ifN i10_209 (by decide) ?_
          refine X14.getstatic i10_212 (hw _ wd_86) Via.refl (hSB.ext X14.ext0) fun T15 X15 => ?_
          refine X15.astore i10_215 rfl (Ls' := #[.val (.int p0), .val (.int p1), .val (.int p2), .val (.int p3), .val (.int pb), .val (.int mb), .val (.int (p2 &&& (255 : Int32))), .val (.int (((p2.toUInt32 >>> ((8 : Int32) &&& 31).toUInt32).toInt32) &&& (255 : Int32))), .val (.int (((p2.toUInt32 >>> ((16 : Int32) &&& 31).toUInt32).toInt32) &&& (255 : Int32))), .val (.int kd), .val (.ref s), .val (.ref eB), .unset]) rfl ?_
          refine X15.goto i10_217 j217_24 ?_
          refine X15.aload i10_241 rfl rfl ?_
          refine X15.callS hl (argsL := [(.ref s)]) i10_243 (c_named l hw hEL hcs hcz hSB hSP hFB hFP hTB hTP hSV hEV hVV X15.old s t b cs S13 lc) (hw _ wd_51) (hw _ wd_52) (hw _ wd_49) (hw _ wd_53) (by decide) sf_nil pd3 rfl rfl rfl (W := 0) rfl (by decide) (by decide) (k' := 11) rfl (n' := 152) rfl (by decide) (by decide) fun vm16 T16 h16 v16 X16 r16 Q16 => ?_
          obtain ⟨r_16, rfl, q16_0, q16_1⟩ := Q16
          show Go _ _ _ _ _ _ _ T16 246 #[.val (.int p0), .val (.int p1), .val (.int p2), .val (.int p3), .val (.int pb), .val (.int mb), .val (.int (p2 &&& (255 : Int32))), .val (.int (((p2.toUInt32 >>> ((8 : Int32) &&& 31).toUInt32).toInt32) &&& (255 : Int32))), .val (.int (((p2.toUInt32 >>> ((16 : Int32) &&& 31).toUInt32).toInt32) &&& (255 : Int32))), .val (.int kd), .val (.ref s), .val (.ref eB), .unset] [r_16]
          rcases q16_1.2 with ⟨rfl, e1⟩ | ⟨rfl, e1, e2⟩ | ⟨rfl, e1, e2⟩
          · skip
            refine X16.aload i10_246 rfl rfl ?_
            refine X16.acN i10_248 rfl rfl (XT.aa_ne_f rfl) ?_
            refine X16.iconst i10_251 (z := (1 : Int32)) rfl ?_
            refine X16.goto i10_252 j252_4 ?_
            exact X16.ireturn i10_256 (t := .boolean) rfl (by decide) rfl (by decide) (by decide) rfl
          · skip
            exact absurd he.symm e1
          · skip
            exact absurd he.symm e1
        · skip
          refine X14.ifY i10_209 j209_11 (by decide) ?_
          refine X14.aload i10_220 rfl rfl ?_
          refine X14.ldcS rfl (cs := [(99 : Int32), (108 : Int32), (105 : Int32), (101 : Int32), (110 : Int32), (116 : Int32), (95 : Int32), (115 : Int32), (101 : Int32), (99 : Int32), (114 : Int32), (101 : Int32), (116 : Int32), (95 : Int32), (112 : Int32), (111 : Int32), (115 : Int32), (116 : Int32)]) i10_222 (hw _ wd_47) (own_wS hw) (List.mem_of_getElem? (i := 1) rfl) lt2_a lt2_b lt2_c (Nat.le_of_ble_eq_true rfl) (nn := 72) (Nat.le_of_eq lt2_d) (by decide) (k' := 12) rfl (n' := 226) rfl (by decide) (by decide) fun vm17 T17 h17 a17 t17 b17 X17 E17 r17 S17 ne17 => ?_
          have S18 := (S13.ext E17)
          refine own_strEq X17 hw i10_224 (hw _ wd_37) S18 S17 lc (Nat.le_of_ble_eq_true rfl) hcs hcz rfl (W := 0) rfl (by decide) (by decide) (by decide) (by decide) fun T19 r19 X19 q19 => ?_
          rcases q19 with ⟨rfl, hf⟩ | ⟨rfl, hf⟩
          · skip
            refine X19.ifN i10_227 (by decide) ?_
            refine X19.getstatic i10_230 (hw _ wd_48) Via.refl (hSP.ext X19.ext0) fun T20 X20 => ?_
            refine X20.astore i10_233 rfl (Ls' := #[.val (.int p0), .val (.int p1), .val (.int p2), .val (.int p3), .val (.int pb), .val (.int mb), .val (.int (p2 &&& (255 : Int32))), .val (.int (((p2.toUInt32 >>> ((8 : Int32) &&& 31).toUInt32).toInt32) &&& (255 : Int32))), .val (.int (((p2.toUInt32 >>> ((16 : Int32) &&& 31).toUInt32).toInt32) &&& (255 : Int32))), .val (.int kd), .val (.ref s), .val (.ref eP), .unset]) rfl ?_
            refine X20.goto i10_235 j235_6 ?_
            refine X20.aload i10_241 rfl rfl ?_
            refine X20.callS hl (argsL := [(.ref s)]) i10_243 (c_named l hw hEL hcs hcz hSB hSP hFB hFP hTB hTP hSV hEV hVV X20.old s t b cs S18 lc) (hw _ wd_51) (hw _ wd_52) (hw _ wd_49) (hw _ wd_53) (by decide) sf_nil pd3 rfl rfl rfl (W := 0) rfl (by decide) (by decide) (k' := 13) rfl (n' := 228) rfl (by decide) (by decide) fun vm21 T21 h21 v21 X21 r21 Q21 => ?_
            obtain ⟨r_21, rfl, q21_0, q21_1⟩ := Q21
            show Go _ _ _ _ _ _ _ T21 246 #[.val (.int p0), .val (.int p1), .val (.int p2), .val (.int p3), .val (.int pb), .val (.int mb), .val (.int (p2 &&& (255 : Int32))), .val (.int (((p2.toUInt32 >>> ((8 : Int32) &&& 31).toUInt32).toInt32) &&& (255 : Int32))), .val (.int (((p2.toUInt32 >>> ((16 : Int32) &&& 31).toUInt32).toInt32) &&& (255 : Int32))), .val (.int kd), .val (.ref s), .val (.ref eP), .unset] [r_21]
            rcases q21_1.2 with ⟨rfl, e1⟩ | ⟨rfl, e1, e2⟩ | ⟨rfl, e1, e2⟩
            · skip
              exact absurd e1.symm he
            · skip
              refine X21.aload i10_246 rfl rfl ?_
              refine X21.acN i10_248 rfl rfl (XT.aa_ne_f rfl) ?_
              refine X21.iconst i10_251 (z := (1 : Int32)) rfl ?_
              refine X21.goto i10_252 j252_4 ?_
              exact X21.ireturn i10_256 (t := .boolean) rfl (by decide) rfl (by decide) (by decide) rfl
            · skip
              exact absurd hf.symm e2
          · skip
            refine X19.ifY i10_227 j227_11 (by decide) ?_
            refine X19.aconst_null i10_238 ?_
            refine X19.astore i10_239 rfl (Ls' := #[.val (.int p0), .val (.int p1), .val (.int p2), .val (.int p3), .val (.int pb), .val (.int mb), .val (.int (p2 &&& (255 : Int32))), .val (.int (((p2.toUInt32 >>> ((8 : Int32) &&& 31).toUInt32).toInt32) &&& (255 : Int32))), .val (.int (((p2.toUInt32 >>> ((16 : Int32) &&& 31).toUInt32).toInt32) &&& (255 : Int32))), .val (.int kd), .val (.ref s), .val .null, .unset]) rfl ?_
            refine X19.aload i10_241 rfl rfl ?_
            refine X19.callS hl (argsL := [(.ref s)]) i10_243 (c_named l hw hEL hcs hcz hSB hSP hFB hFP hTB hTP hSV hEV hVV X19.old s t b cs S18 lc) (hw _ wd_51) (hw _ wd_52) (hw _ wd_49) (hw _ wd_53) (by decide) sf_nil pd3 rfl rfl rfl (W := 0) rfl (by decide) (by decide) (k' := 13) rfl (n' := 228) rfl (by decide) (by decide) fun vm22 T22 h22 v22 X22 r22 Q22 => ?_
            obtain ⟨r_22, rfl, q22_0, q22_1⟩ := Q22
            show Go _ _ _ _ _ _ _ T22 246 #[.val (.int p0), .val (.int p1), .val (.int p2), .val (.int p3), .val (.int pb), .val (.int mb), .val (.int (p2 &&& (255 : Int32))), .val (.int (((p2.toUInt32 >>> ((8 : Int32) &&& 31).toUInt32).toInt32) &&& (255 : Int32))), .val (.int (((p2.toUInt32 >>> ((16 : Int32) &&& 31).toUInt32).toInt32) &&& (255 : Int32))), .val (.int kd), .val (.ref s), .val .null, .unset] [r_22]
            rcases q22_1.2 with ⟨rfl, e1⟩ | ⟨rfl, e1, e2⟩ | ⟨rfl, e1, e2⟩
            · skip
              exact absurd e1.symm he
            · skip
              exact absurd e2.symm hf
            · skip
              refine X22.aload i10_246 rfl rfl ?_
              refine X22.acN i10_248 rfl rfl (XT.aa_ne_f rfl) ?_
              refine X22.iconst i10_251 (z := (1 : Int32)) rfl ?_
              refine X22.goto i10_252 j252_4 ?_
              exact X22.ireturn i10_256 (t := .boolean) rfl (by decide) rfl (by decide) (by decide) rfl
      have J191c : ∀ (vm' : Vm) (T' : State) (h' : Heap) (X' : On C room_1 "com/example/grant/grant/providers/ClientAuthenticationNamedPinLaw" code 13 (some .boolean) "law" false Z a0 own_EL Z.heap.size vm' T' h' 8 70) (E' : Ext Z.heap h') (r' : CHr Z own_EL vm Z.heap vm' h') (s : Addr) (t : Addr) (b : ClassId) (cs : List Int32) (lc : cs.length ≤ 4000) (S' : Str Z h' s t b cs), Go C room_1 false Z own_EL Z.heap.size (fun v h' => v = some (.int (1 : Int32))) T' 191 #[.val (.int p0), .val (.int p1), .val (.int p2), .val (.int p3), .val (.int pb), .val (.int mb), .val (.int (p2 &&& (255 : Int32))), .val (.int (((p2.toUInt32 >>> ((8 : Int32) &&& 31).toUInt32).toInt32) &&& (255 : Int32))), .val (.int (((p2.toUInt32 >>> ((16 : Int32) &&& 31).toUInt32).toInt32) &&& (255 : Int32))), .val (.int kd), .val (.ref s), .unset, .unset] [] := by
        intro vm' T' h' X' E' r' s t b cs lc S'
        refine X'.aload i10_191 rfl rfl ?_
        refine X'.nonnullY i10_193 j193_9 ?_
        refine X'.aload i10_202 rfl rfl ?_
        refine X'.ldcS rfl (cs := [(99 : Int32), (108 : Int32), (105 : Int32), (101 : Int32), (110 : Int32), (116 : Int32), (95 : Int32), (115 : Int32), (101 : Int32), (99 : Int32), (114 : Int32), (101 : Int32), (116 : Int32), (95 : Int32), (98 : Int32), (97 : Int32), (115 : Int32), (105 : Int32), (99 : Int32)]) i10_204 (hw _ wd_34) (own_wS hw) (List.mem_of_getElem? (i := 0) rfl) lt1_a lt1_b lt1_c (Nat.le_of_ble_eq_true rfl) (nn := 76) (Nat.le_of_eq lt1_d) (by decide) (k' := 10) rfl (n' := 150) rfl (by decide) (by decide) fun vm23 T23 h23 a23 t23 b23 X23 E23 r23 S23 ne23 => ?_
        have S24 := (S'.ext E23)
        refine own_strEq X23 hw i10_206 (hw _ wd_37) S24 S23 lc (Nat.le_of_ble_eq_true rfl) hcs hcz rfl (W := 0) rfl (by decide) (by decide) (by decide) (by decide) fun T25 r25 X25 q25 => ?_
        rcases q25 with ⟨rfl, he⟩ | ⟨rfl, he⟩
        · skip
          refine X25.ifN i10_209 (by decide) ?_
          refine X25.getstatic i10_212 (hw _ wd_86) Via.refl (hSB.ext X25.ext0) fun T26 X26 => ?_
          refine X26.astore i10_215 rfl (Ls' := #[.val (.int p0), .val (.int p1), .val (.int p2), .val (.int p3), .val (.int pb), .val (.int mb), .val (.int (p2 &&& (255 : Int32))), .val (.int (((p2.toUInt32 >>> ((8 : Int32) &&& 31).toUInt32).toInt32) &&& (255 : Int32))), .val (.int (((p2.toUInt32 >>> ((16 : Int32) &&& 31).toUInt32).toInt32) &&& (255 : Int32))), .val (.int kd), .val (.ref s), .val (.ref eB), .unset]) rfl ?_
          refine X26.goto i10_217 j217_24 ?_
          refine X26.aload i10_241 rfl rfl ?_
          refine X26.callS hl (argsL := [(.ref s)]) i10_243 (c_named l hw hEL hcs hcz hSB hSP hFB hFP hTB hTP hSV hEV hVV X26.old s t b cs S24 lc) (hw _ wd_51) (hw _ wd_52) (hw _ wd_49) (hw _ wd_53) (by decide) sf_nil pd3 rfl rfl rfl (W := 0) rfl (by decide) (by decide) (k' := 11) rfl (n' := 152) rfl (by decide) (by decide) fun vm27 T27 h27 v27 X27 r27 Q27 => ?_
          obtain ⟨r_27, rfl, q27_0, q27_1⟩ := Q27
          show Go _ _ _ _ _ _ _ T27 246 #[.val (.int p0), .val (.int p1), .val (.int p2), .val (.int p3), .val (.int pb), .val (.int mb), .val (.int (p2 &&& (255 : Int32))), .val (.int (((p2.toUInt32 >>> ((8 : Int32) &&& 31).toUInt32).toInt32) &&& (255 : Int32))), .val (.int (((p2.toUInt32 >>> ((16 : Int32) &&& 31).toUInt32).toInt32) &&& (255 : Int32))), .val (.int kd), .val (.ref s), .val (.ref eB), .unset] [r_27]
          rcases q27_1.2 with ⟨rfl, e1⟩ | ⟨rfl, e1, e2⟩ | ⟨rfl, e1, e2⟩
          · skip
            refine X27.aload i10_246 rfl rfl ?_
            refine X27.acN i10_248 rfl rfl (XT.aa_ne_f rfl) ?_
            refine X27.iconst i10_251 (z := (1 : Int32)) rfl ?_
            refine X27.goto i10_252 j252_4 ?_
            exact X27.ireturn i10_256 (t := .boolean) rfl (by decide) rfl (by decide) (by decide) rfl
          · skip
            exact absurd he.symm e1
          · skip
            exact absurd he.symm e1
        · skip
          refine X25.ifY i10_209 j209_11 (by decide) ?_
          refine X25.aload i10_220 rfl rfl ?_
          refine X25.ldcS rfl (cs := [(99 : Int32), (108 : Int32), (105 : Int32), (101 : Int32), (110 : Int32), (116 : Int32), (95 : Int32), (115 : Int32), (101 : Int32), (99 : Int32), (114 : Int32), (101 : Int32), (116 : Int32), (95 : Int32), (112 : Int32), (111 : Int32), (115 : Int32), (116 : Int32)]) i10_222 (hw _ wd_47) (own_wS hw) (List.mem_of_getElem? (i := 1) rfl) lt2_a lt2_b lt2_c (Nat.le_of_ble_eq_true rfl) (nn := 72) (Nat.le_of_eq lt2_d) (by decide) (k' := 12) rfl (n' := 226) rfl (by decide) (by decide) fun vm28 T28 h28 a28 t28 b28 X28 E28 r28 S28 ne28 => ?_
          have S29 := (S24.ext E28)
          refine own_strEq X28 hw i10_224 (hw _ wd_37) S29 S28 lc (Nat.le_of_ble_eq_true rfl) hcs hcz rfl (W := 0) rfl (by decide) (by decide) (by decide) (by decide) fun T30 r30 X30 q30 => ?_
          rcases q30 with ⟨rfl, hf⟩ | ⟨rfl, hf⟩
          · skip
            refine X30.ifN i10_227 (by decide) ?_
            refine X30.getstatic i10_230 (hw _ wd_48) Via.refl (hSP.ext X30.ext0) fun T31 X31 => ?_
            refine X31.astore i10_233 rfl (Ls' := #[.val (.int p0), .val (.int p1), .val (.int p2), .val (.int p3), .val (.int pb), .val (.int mb), .val (.int (p2 &&& (255 : Int32))), .val (.int (((p2.toUInt32 >>> ((8 : Int32) &&& 31).toUInt32).toInt32) &&& (255 : Int32))), .val (.int (((p2.toUInt32 >>> ((16 : Int32) &&& 31).toUInt32).toInt32) &&& (255 : Int32))), .val (.int kd), .val (.ref s), .val (.ref eP), .unset]) rfl ?_
            refine X31.goto i10_235 j235_6 ?_
            refine X31.aload i10_241 rfl rfl ?_
            refine X31.callS hl (argsL := [(.ref s)]) i10_243 (c_named l hw hEL hcs hcz hSB hSP hFB hFP hTB hTP hSV hEV hVV X31.old s t b cs S29 lc) (hw _ wd_51) (hw _ wd_52) (hw _ wd_49) (hw _ wd_53) (by decide) sf_nil pd3 rfl rfl rfl (W := 0) rfl (by decide) (by decide) (k' := 13) rfl (n' := 228) rfl (by decide) (by decide) fun vm32 T32 h32 v32 X32 r32 Q32 => ?_
            obtain ⟨r_32, rfl, q32_0, q32_1⟩ := Q32
            show Go _ _ _ _ _ _ _ T32 246 #[.val (.int p0), .val (.int p1), .val (.int p2), .val (.int p3), .val (.int pb), .val (.int mb), .val (.int (p2 &&& (255 : Int32))), .val (.int (((p2.toUInt32 >>> ((8 : Int32) &&& 31).toUInt32).toInt32) &&& (255 : Int32))), .val (.int (((p2.toUInt32 >>> ((16 : Int32) &&& 31).toUInt32).toInt32) &&& (255 : Int32))), .val (.int kd), .val (.ref s), .val (.ref eP), .unset] [r_32]
            rcases q32_1.2 with ⟨rfl, e1⟩ | ⟨rfl, e1, e2⟩ | ⟨rfl, e1, e2⟩
            · skip
              exact absurd e1.symm he
            · skip
              refine X32.aload i10_246 rfl rfl ?_
              refine X32.acN i10_248 rfl rfl (XT.aa_ne_f rfl) ?_
              refine X32.iconst i10_251 (z := (1 : Int32)) rfl ?_
              refine X32.goto i10_252 j252_4 ?_
              exact X32.ireturn i10_256 (t := .boolean) rfl (by decide) rfl (by decide) (by decide) rfl
            · skip
              exact absurd hf.symm e2
          · skip
            refine X30.ifY i10_227 j227_11 (by decide) ?_
            refine X30.aconst_null i10_238 ?_
            refine X30.astore i10_239 rfl (Ls' := #[.val (.int p0), .val (.int p1), .val (.int p2), .val (.int p3), .val (.int pb), .val (.int mb), .val (.int (p2 &&& (255 : Int32))), .val (.int (((p2.toUInt32 >>> ((8 : Int32) &&& 31).toUInt32).toInt32) &&& (255 : Int32))), .val (.int (((p2.toUInt32 >>> ((16 : Int32) &&& 31).toUInt32).toInt32) &&& (255 : Int32))), .val (.int kd), .val (.ref s), .val .null, .unset]) rfl ?_
            refine X30.aload i10_241 rfl rfl ?_
            refine X30.callS hl (argsL := [(.ref s)]) i10_243 (c_named l hw hEL hcs hcz hSB hSP hFB hFP hTB hTP hSV hEV hVV X30.old s t b cs S29 lc) (hw _ wd_51) (hw _ wd_52) (hw _ wd_49) (hw _ wd_53) (by decide) sf_nil pd3 rfl rfl rfl (W := 0) rfl (by decide) (by decide) (k' := 13) rfl (n' := 228) rfl (by decide) (by decide) fun vm33 T33 h33 v33 X33 r33 Q33 => ?_
            obtain ⟨r_33, rfl, q33_0, q33_1⟩ := Q33
            show Go _ _ _ _ _ _ _ T33 246 #[.val (.int p0), .val (.int p1), .val (.int p2), .val (.int p3), .val (.int pb), .val (.int mb), .val (.int (p2 &&& (255 : Int32))), .val (.int (((p2.toUInt32 >>> ((8 : Int32) &&& 31).toUInt32).toInt32) &&& (255 : Int32))), .val (.int (((p2.toUInt32 >>> ((16 : Int32) &&& 31).toUInt32).toInt32) &&& (255 : Int32))), .val (.int kd), .val (.ref s), .val .null, .unset] [r_33]
            rcases q33_1.2 with ⟨rfl, e1⟩ | ⟨rfl, e1, e2⟩ | ⟨rfl, e1, e2⟩
            · skip
              exact absurd e1.symm he
            · skip
              exact absurd e2.symm hf
            · skip
              refine X33.aload i10_246 rfl rfl ?_
              refine X33.acN i10_248 rfl rfl (XT.aa_ne_f rfl) ?_
              refine X33.iconst i10_251 (z := (1 : Int32)) rfl ?_
              refine X33.goto i10_252 j252_4 ?_
              exact X33.ireturn i10_256 (t := .boolean) rfl (by decide) rfl (by decide) (by decide) rfl
      rcases hk4 with rfl | rfl | rfl | rfl
      · skip
        refine X.iload i10_61 rfl ?_
        refine X.ifN i10_63 (by decide) ?_
        rcases hpb with rfl | rfl
        · skip
          refine X.iload i10_66 rfl ?_
          refine X.ifY i10_68 j68_9 (by decide) ?_
          refine X.callS hl (argsL := []) i10_77 (c_bn l hw hEL hcs hcz hSB hSP hFB hFP hTB hTP hSV hEV hVV X.old  ) (hw _ wd_73) (hw _ wd_74) (hw _ wd_2) (hw _ wd_75) (by decide) sf_nil pd4 rfl rfl rfl (W := 0) rfl (by decide) (by decide) (k' := 1) rfl (n' := 19) rfl (by decide) (by decide) fun vm34 T34 h34 v34 X34 r34 Q34 => ?_
          obtain ⟨r_34, kc_34, rfl, q34_0, q34_1, q34_2⟩ := Q34
          have g35 := Nat.le_trans X.n0le q34_1
          show Go _ _ _ _ _ _ _ T34 80 #[.val (.int p0), .val (.int p1), .val (.int p2), .val (.int p3), .val (.int (0 : Int32)), .val (.int mb), .val (.int (p2 &&& (255 : Int32))), .val (.int (((p2.toUInt32 >>> ((8 : Int32) &&& 31).toUInt32).toInt32) &&& (255 : Int32))), .val (.int (((p2.toUInt32 >>> ((16 : Int32) &&& 31).toUInt32).toInt32) &&& (255 : Int32))), .val (.int (0 : Int32)), .unset, .unset, .unset] [(.ref r_34)]
          refine X34.astore i10_80 rfl (Ls' := #[.val (.int p0), .val (.int p1), .val (.int p2), .val (.int p3), .val (.int (0 : Int32)), .val (.int mb), .val (.int (p2 &&& (255 : Int32))), .val (.int (((p2.toUInt32 >>> ((8 : Int32) &&& 31).toUInt32).toInt32) &&& (255 : Int32))), .val (.int (((p2.toUInt32 >>> ((16 : Int32) &&& 31).toUInt32).toInt32) &&& (255 : Int32))), .val (.int (0 : Int32)), .unset, .val (.ref r_34), .unset]) rfl ?_
          rcases hmb with rfl | rfl
          · skip
            refine X34.iload i10_82 rfl ?_
            refine X34.ifY i10_84 j84_20 (by decide) ?_
            refine X34.new i10_104 (hw _ wd_5) (hw _ wd_6) (hw _ wd_7) (k' := 2) rfl (n' := 23) rfl (by decide) (by decide) fun T36 h36 a36 X36 E36 z36 g36 A36 D36 U36 Sf36 => ?_
            refine X36.dup i10_107 rfl ?_
            refine X36.aload i10_108 rfl rfl ?_
            have V37 := (q34_2.ext E36)
            have F39 : Fld Z h36 a36 "java/lang/String" "value" "[B" .null := D36 (Or.inr (hw _ wd_33)) (ty := (.array .byte)) (by decide)
            have F40 : Fld Z h36 a36 "java/lang/String" "coder" "B" (.int (0 : Int32)) := D36 (Or.inr (hw _ wd_31)) (ty := .byte) (by decide)
            have hp38 : ∀ c ∈ ([(99 : Int32), (108 : Int32), (105 : Int32), (101 : Int32), (110 : Int32), (116 : Int32), (95 : Int32), (115 : Int32), (101 : Int32), (99 : Int32), (114 : Int32), (101 : Int32), (116 : Int32), (95 : Int32), (98 : Int32), (97 : Int32), (115 : Int32), (105 : Int32), (99 : Int32)] : List Int32), ¬ c < 0 ∧ ¬ (255 : Int32) < c := (own_allS ⟨by decide, by decide⟩ (own_allS ⟨by decide, by decide⟩ (own_allS ⟨by decide, by decide⟩ (own_allS ⟨by decide, by decide⟩ (own_allS ⟨by decide, by decide⟩ (own_allS ⟨by decide, by decide⟩ (own_allS ⟨by decide, by decide⟩ (own_allS ⟨by decide, by decide⟩ (own_allS ⟨by decide, by decide⟩ (own_allS ⟨by decide, by decide⟩ (own_allS ⟨by decide, by decide⟩ (own_allS ⟨by decide, by decide⟩ (own_allS ⟨by decide, by decide⟩ (own_allS ⟨by decide, by decide⟩ (own_allS ⟨by decide, by decide⟩ (own_allS ⟨by decide, by decide⟩ (own_allS ⟨by decide, by decide⟩ (own_allS ⟨by decide, by decide⟩ (own_allS ⟨by decide, by decide⟩ own_all0)))))))))))))))))))
            refine own_strInit X36 hw (cs := [(99 : Int32), (108 : Int32), (105 : Int32), (101 : Int32), (110 : Int32), (116 : Int32), (95 : Int32), (115 : Int32), (101 : Int32), (99 : Int32), (114 : Int32), (101 : Int32), (116 : Int32), (95 : Int32), (98 : Int32), (97 : Int32), (115 : Int32), (105 : Int32), (99 : Int32)]) (c0 := r_34) i10_110 (hw _ wd_8) g36 A36 F39 F40 V37 rfl (Nat.le_of_ble_eq_true rfl) (Nat.le_of_ble_eq_true rfl) hp38 hcs hcz Sf36 rfl (W := 1) rfl (by decide) (by decide) (k' := 3) rfl (n' := 42) rfl (by decide) (by decide) fun T38 h38 t38 b38 X38 K38 y38 S38 => ?_
            refine X38.astore i10_113 rfl (Ls' := #[.val (.int p0), .val (.int p1), .val (.int p2), .val (.int p3), .val (.int (0 : Int32)), .val (.int (0 : Int32)), .val (.int (p2 &&& (255 : Int32))), .val (.int (((p2.toUInt32 >>> ((8 : Int32) &&& 31).toUInt32).toInt32) &&& (255 : Int32))), .val (.int (((p2.toUInt32 >>> ((16 : Int32) &&& 31).toUInt32).toInt32) &&& (255 : Int32))), .val (.int (0 : Int32)), .val (.ref a36), .val (.ref r_34), .unset]) rfl ?_
            refine X38.goto i10_115 j115_76 ?_
            exact J191b _ _ _ (X38.more (by decide) (by decide)) (ext_keep (ext_trans q34_0 E36) K38 (allS (Nat.le_trans q34_0.1 (Nat.le_of_eq z36)) all0)) (((r34).trans (CHr.ext E36 X34.chv)).trans (CHr.keep K38 (sfS Sf36 sf0) X36.chv)) _ _ _ _ (Nat.le_of_ble_eq_true rfl) S38 _
          · skip
            refine X34.iload i10_82 rfl ?_
            refine X34.ifN i10_84 (by decide) ?_
            refine X34.iload_n i10_87 rfl ?_
            refine X34.ldcI i10_88 (hw _ wd_76) ?_
            refine X34.iand i10_90 (z := (p1 &&& (2147483647 : Int32))) rfl ?_
            refine X34.aload i10_91 rfl rfl ?_
            refine X34.arraylength i10_93 q34_2 ?_
            refine X34.irem i10_94 (by decide) (z := ((p1 &&& (2147483647 : Int32)) % (19 : Int32))) rfl ?_
            refine X34.istore i10_95 (Ls' := #[.val (.int p0), .val (.int p1), .val (.int p2), .val (.int p3), .val (.int (0 : Int32)), .val (.int (1 : Int32)), .val (.int (p2 &&& (255 : Int32))), .val (.int (((p2.toUInt32 >>> ((8 : Int32) &&& 31).toUInt32).toInt32) &&& (255 : Int32))), .val (.int (((p2.toUInt32 >>> ((16 : Int32) &&& 31).toUInt32).toInt32) &&& (255 : Int32))), .val (.int (0 : Int32)), .unset, .val (.ref r_34), .val (.int ((p1 &&& (2147483647 : Int32)) % (19 : Int32)))]) rfl ?_
            refine X34.aload i10_97 rfl rfl ?_
            refine X34.iload i10_99 rfl ?_
            refine X34.iload i10_101 rfl ?_
            have hix := own_ix (x := p1) (z := (19 : Int32)) (by decide)
            refine X34.castore i10_103 q34_2 hix (i := ((p1 &&& (2147483647 : Int32)) % (19 : Int32)).toNatClampNeg) rfl (own_ixn (n := 19) hix (by decide)) (y := (p2 &&& (255 : Int32))) (i2c_mask _) g35 fun T41 h41 X41 W41 V41 => ?_
            have V41 : Arv Z h41 r_34 kc_34 .char (19 : Int32) (([(99 : Int32), (108 : Int32), (105 : Int32), (101 : Int32), (110 : Int32), (116 : Int32), (95 : Int32), (115 : Int32), (101 : Int32), (99 : Int32), (114 : Int32), (101 : Int32), (116 : Int32), (95 : Int32), (98 : Int32), (97 : Int32), (115 : Int32), (105 : Int32), (99 : Int32)].set ((p1 &&& (2147483647 : Int32)) % (19 : Int32)).toNatClampNeg (p2 &&& (255 : Int32))).map Value.int) (.int (0 : Int32)) := by rw [← own_mapset (cs := [(99 : Int32), (108 : Int32), (105 : Int32), (101 : Int32), (110 : Int32), (116 : Int32), (95 : Int32), (115 : Int32), (101 : Int32), (99 : Int32), (114 : Int32), (101 : Int32), (116 : Int32), (95 : Int32), (98 : Int32), (97 : Int32), (115 : Int32), (105 : Int32), (99 : Int32)]) rfl]; exact V41
            refine X41.new i10_104 (hw _ wd_5) (hw _ wd_6) (hw _ wd_7) (k' := 2) rfl (n' := 23) rfl (by decide) (by decide) fun T42 h42 a42 X42 E42 z42 g42 A42 D42 U42 Sf42 => ?_
            refine X42.dup i10_107 rfl ?_
            refine X42.aload i10_108 rfl rfl ?_
            have V44 := (V41.ext E42)
            have F45 : Fld Z h42 a42 "java/lang/String" "value" "[B" .null := D42 (Or.inr (hw _ wd_33)) (ty := (.array .byte)) (by decide)
            have F46 : Fld Z h42 a42 "java/lang/String" "coder" "B" (.int (0 : Int32)) := D42 (Or.inr (hw _ wd_31)) (ty := .byte) (by decide)
            have hp43 : ∀ c ∈ ([(99 : Int32), (108 : Int32), (105 : Int32), (101 : Int32), (110 : Int32), (116 : Int32), (95 : Int32), (115 : Int32), (101 : Int32), (99 : Int32), (114 : Int32), (101 : Int32), (116 : Int32), (95 : Int32), (98 : Int32), (97 : Int32), (115 : Int32), (105 : Int32), (99 : Int32)].set ((p1 &&& (2147483647 : Int32)) % (19 : Int32)).toNatClampNeg (p2 &&& (255 : Int32))), ¬ c < 0 ∧ ¬ (255 : Int32) < c := own_setlat own_lB (own_and255 _)
            refine own_strInit X42 hw (cs := ([(99 : Int32), (108 : Int32), (105 : Int32), (101 : Int32), (110 : Int32), (116 : Int32), (95 : Int32), (115 : Int32), (101 : Int32), (99 : Int32), (114 : Int32), (101 : Int32), (116 : Int32), (95 : Int32), (98 : Int32), (97 : Int32), (115 : Int32), (105 : Int32), (99 : Int32)].set ((p1 &&& (2147483647 : Int32)) % (19 : Int32)).toNatClampNeg (p2 &&& (255 : Int32)))) (c0 := r_34) i10_110 (hw _ wd_8) g42 A42 F45 F46 V44 (by rw [List.length_set]; rfl) (by rw [List.length_set]; exact Nat.le_of_ble_eq_true rfl) (by rw [List.length_set]; exact Nat.le_of_ble_eq_true rfl) hp43 hcs hcz Sf42 rfl (W := 1) rfl (by decide) (by decide) (k' := 3) rfl (n' := 42) (by rw [List.length_set]; rfl) (by decide) (by decide) fun T43 h43 t43 b43 X43 K43 y43 S43 => ?_
            refine X43.astore i10_113 rfl (Ls' := #[.val (.int p0), .val (.int p1), .val (.int p2), .val (.int p3), .val (.int (0 : Int32)), .val (.int (1 : Int32)), .val (.int (p2 &&& (255 : Int32))), .val (.int (((p2.toUInt32 >>> ((8 : Int32) &&& 31).toUInt32).toInt32) &&& (255 : Int32))), .val (.int (((p2.toUInt32 >>> ((16 : Int32) &&& 31).toUInt32).toInt32) &&& (255 : Int32))), .val (.int (0 : Int32)), .val (.ref a42), .val (.ref r_34), .val (.int ((p1 &&& (2147483647 : Int32)) % (19 : Int32)))]) rfl ?_
            refine X43.goto i10_115 j115_76 ?_
            exact J191a _ _ _ (X43.more (by decide) (by decide)) (ext_keep (ext_trans (ext_wr q34_0 W41 q34_1) E42) K43 (allS (Nat.le_trans q34_0.1 (Nat.le_trans (Keep.of_wr W41).1 (Nat.le_of_eq z42))) all0)) ((((r34).trans (CHr.wr W41 (Safe.arv X34.zw.alike q34_2 (by simp)) X34.chv)).trans (CHr.ext E42 X41.chv)).trans (CHr.keep K43 (sfS Sf42 sf0) X42.chv)) _ _ _ _ (by rw [List.length_set]; exact Nat.le_of_ble_eq_true rfl) S43 _ _
        · skip
          refine X.iload i10_66 rfl ?_
          refine X.ifN i10_68 (by decide) ?_
          refine X.callS hl (argsL := []) i10_71 (c_pn l hw hEL hcs hcz hSB hSP hFB hFP hTB hTP hSV hEV hVV X.old  ) (hw _ wd_0) (hw _ wd_1) (hw _ wd_2) (hw _ wd_3) (by decide) sf_nil pd4 rfl rfl rfl (W := 0) rfl (by decide) (by decide) (k' := 1) rfl (n' := 18) rfl (by decide) (by decide) fun vm47 T47 h47 v47 X47 r47 Q47 => ?_
          obtain ⟨r_47, kc_47, rfl, q47_0, q47_1, q47_2⟩ := Q47
          have g48 := Nat.le_trans X.n0le q47_1
          show Go _ _ _ _ _ _ _ T47 74 #[.val (.int p0), .val (.int p1), .val (.int p2), .val (.int p3), .val (.int (1 : Int32)), .val (.int mb), .val (.int (p2 &&& (255 : Int32))), .val (.int (((p2.toUInt32 >>> ((8 : Int32) &&& 31).toUInt32).toInt32) &&& (255 : Int32))), .val (.int (((p2.toUInt32 >>> ((16 : Int32) &&& 31).toUInt32).toInt32) &&& (255 : Int32))), .val (.int (0 : Int32)), .unset, .unset, .unset] [(.ref r_47)]
          refine X47.goto i10_74 j74_6 ?_
          refine X47.astore i10_80 rfl (Ls' := #[.val (.int p0), .val (.int p1), .val (.int p2), .val (.int p3), .val (.int (1 : Int32)), .val (.int mb), .val (.int (p2 &&& (255 : Int32))), .val (.int (((p2.toUInt32 >>> ((8 : Int32) &&& 31).toUInt32).toInt32) &&& (255 : Int32))), .val (.int (((p2.toUInt32 >>> ((16 : Int32) &&& 31).toUInt32).toInt32) &&& (255 : Int32))), .val (.int (0 : Int32)), .unset, .val (.ref r_47), .unset]) rfl ?_
          rcases hmb with rfl | rfl
          · skip
            refine X47.iload i10_82 rfl ?_
            refine X47.ifY i10_84 j84_20 (by decide) ?_
            refine X47.new i10_104 (hw _ wd_5) (hw _ wd_6) (hw _ wd_7) (k' := 2) rfl (n' := 22) rfl (by decide) (by decide) fun T49 h49 a49 X49 E49 z49 g49 A49 D49 U49 Sf49 => ?_
            refine X49.dup i10_107 rfl ?_
            refine X49.aload i10_108 rfl rfl ?_
            have V50 := (q47_2.ext E49)
            have F52 : Fld Z h49 a49 "java/lang/String" "value" "[B" .null := D49 (Or.inr (hw _ wd_33)) (ty := (.array .byte)) (by decide)
            have F53 : Fld Z h49 a49 "java/lang/String" "coder" "B" (.int (0 : Int32)) := D49 (Or.inr (hw _ wd_31)) (ty := .byte) (by decide)
            have hp51 : ∀ c ∈ ([(99 : Int32), (108 : Int32), (105 : Int32), (101 : Int32), (110 : Int32), (116 : Int32), (95 : Int32), (115 : Int32), (101 : Int32), (99 : Int32), (114 : Int32), (101 : Int32), (116 : Int32), (95 : Int32), (112 : Int32), (111 : Int32), (115 : Int32), (116 : Int32)] : List Int32), ¬ c < 0 ∧ ¬ (255 : Int32) < c := (own_allS ⟨by decide, by decide⟩ (own_allS ⟨by decide, by decide⟩ (own_allS ⟨by decide, by decide⟩ (own_allS ⟨by decide, by decide⟩ (own_allS ⟨by decide, by decide⟩ (own_allS ⟨by decide, by decide⟩ (own_allS ⟨by decide, by decide⟩ (own_allS ⟨by decide, by decide⟩ (own_allS ⟨by decide, by decide⟩ (own_allS ⟨by decide, by decide⟩ (own_allS ⟨by decide, by decide⟩ (own_allS ⟨by decide, by decide⟩ (own_allS ⟨by decide, by decide⟩ (own_allS ⟨by decide, by decide⟩ (own_allS ⟨by decide, by decide⟩ (own_allS ⟨by decide, by decide⟩ (own_allS ⟨by decide, by decide⟩ (own_allS ⟨by decide, by decide⟩ own_all0))))))))))))))))))
            refine own_strInit X49 hw (cs := [(99 : Int32), (108 : Int32), (105 : Int32), (101 : Int32), (110 : Int32), (116 : Int32), (95 : Int32), (115 : Int32), (101 : Int32), (99 : Int32), (114 : Int32), (101 : Int32), (116 : Int32), (95 : Int32), (112 : Int32), (111 : Int32), (115 : Int32), (116 : Int32)]) (c0 := r_47) i10_110 (hw _ wd_8) g49 A49 F52 F53 V50 rfl (Nat.le_of_ble_eq_true rfl) (Nat.le_of_ble_eq_true rfl) hp51 hcs hcz Sf49 rfl (W := 1) rfl (by decide) (by decide) (k' := 3) rfl (n' := 40) rfl (by decide) (by decide) fun T51 h51 t51 b51 X51 K51 y51 S51 => ?_
            refine X51.astore i10_113 rfl (Ls' := #[.val (.int p0), .val (.int p1), .val (.int p2), .val (.int p3), .val (.int (1 : Int32)), .val (.int (0 : Int32)), .val (.int (p2 &&& (255 : Int32))), .val (.int (((p2.toUInt32 >>> ((8 : Int32) &&& 31).toUInt32).toInt32) &&& (255 : Int32))), .val (.int (((p2.toUInt32 >>> ((16 : Int32) &&& 31).toUInt32).toInt32) &&& (255 : Int32))), .val (.int (0 : Int32)), .val (.ref a49), .val (.ref r_47), .unset]) rfl ?_
            refine X51.goto i10_115 j115_76 ?_
            exact J191b _ _ _ (X51.more (by decide) (by decide)) (ext_keep (ext_trans q47_0 E49) K51 (allS (Nat.le_trans q47_0.1 (Nat.le_of_eq z49)) all0)) (((r47).trans (CHr.ext E49 X47.chv)).trans (CHr.keep K51 (sfS Sf49 sf0) X49.chv)) _ _ _ _ (Nat.le_of_ble_eq_true rfl) S51 _
          · skip
            refine X47.iload i10_82 rfl ?_
            refine X47.ifN i10_84 (by decide) ?_
            refine X47.iload_n i10_87 rfl ?_
            refine X47.ldcI i10_88 (hw _ wd_76) ?_
            refine X47.iand i10_90 (z := (p1 &&& (2147483647 : Int32))) rfl ?_
            refine X47.aload i10_91 rfl rfl ?_
            refine X47.arraylength i10_93 q47_2 ?_
            refine X47.irem i10_94 (by decide) (z := ((p1 &&& (2147483647 : Int32)) % (18 : Int32))) rfl ?_
            refine X47.istore i10_95 (Ls' := #[.val (.int p0), .val (.int p1), .val (.int p2), .val (.int p3), .val (.int (1 : Int32)), .val (.int (1 : Int32)), .val (.int (p2 &&& (255 : Int32))), .val (.int (((p2.toUInt32 >>> ((8 : Int32) &&& 31).toUInt32).toInt32) &&& (255 : Int32))), .val (.int (((p2.toUInt32 >>> ((16 : Int32) &&& 31).toUInt32).toInt32) &&& (255 : Int32))), .val (.int (0 : Int32)), .unset, .val (.ref r_47), .val (.int ((p1 &&& (2147483647 : Int32)) % (18 : Int32)))]) rfl ?_
            refine X47.aload i10_97 rfl rfl ?_
            refine X47.iload i10_99 rfl ?_
            refine X47.iload i10_101 rfl ?_
            have hix := own_ix (x := p1) (z := (18 : Int32)) (by decide)
            refine X47.castore i10_103 q47_2 hix (i := ((p1 &&& (2147483647 : Int32)) % (18 : Int32)).toNatClampNeg) rfl (own_ixn (n := 18) hix (by decide)) (y := (p2 &&& (255 : Int32))) (i2c_mask _) g48 fun T54 h54 X54 W54 V54 => ?_
            have V54 : Arv Z h54 r_47 kc_47 .char (18 : Int32) (([(99 : Int32), (108 : Int32), (105 : Int32), (101 : Int32), (110 : Int32), (116 : Int32), (95 : Int32), (115 : Int32), (101 : Int32), (99 : Int32), (114 : Int32), (101 : Int32), (116 : Int32), (95 : Int32), (112 : Int32), (111 : Int32), (115 : Int32), (116 : Int32)].set ((p1 &&& (2147483647 : Int32)) % (18 : Int32)).toNatClampNeg (p2 &&& (255 : Int32))).map Value.int) (.int (0 : Int32)) := by rw [← own_mapset (cs := [(99 : Int32), (108 : Int32), (105 : Int32), (101 : Int32), (110 : Int32), (116 : Int32), (95 : Int32), (115 : Int32), (101 : Int32), (99 : Int32), (114 : Int32), (101 : Int32), (116 : Int32), (95 : Int32), (112 : Int32), (111 : Int32), (115 : Int32), (116 : Int32)]) rfl]; exact V54
            refine X54.new i10_104 (hw _ wd_5) (hw _ wd_6) (hw _ wd_7) (k' := 2) rfl (n' := 22) rfl (by decide) (by decide) fun T55 h55 a55 X55 E55 z55 g55 A55 D55 U55 Sf55 => ?_
            refine X55.dup i10_107 rfl ?_
            refine X55.aload i10_108 rfl rfl ?_
            have V57 := (V54.ext E55)
            have F58 : Fld Z h55 a55 "java/lang/String" "value" "[B" .null := D55 (Or.inr (hw _ wd_33)) (ty := (.array .byte)) (by decide)
            have F59 : Fld Z h55 a55 "java/lang/String" "coder" "B" (.int (0 : Int32)) := D55 (Or.inr (hw _ wd_31)) (ty := .byte) (by decide)
            have hp56 : ∀ c ∈ ([(99 : Int32), (108 : Int32), (105 : Int32), (101 : Int32), (110 : Int32), (116 : Int32), (95 : Int32), (115 : Int32), (101 : Int32), (99 : Int32), (114 : Int32), (101 : Int32), (116 : Int32), (95 : Int32), (112 : Int32), (111 : Int32), (115 : Int32), (116 : Int32)].set ((p1 &&& (2147483647 : Int32)) % (18 : Int32)).toNatClampNeg (p2 &&& (255 : Int32))), ¬ c < 0 ∧ ¬ (255 : Int32) < c := own_setlat own_lP (own_and255 _)
            refine own_strInit X55 hw (cs := ([(99 : Int32), (108 : Int32), (105 : Int32), (101 : Int32), (110 : Int32), (116 : Int32), (95 : Int32), (115 : Int32), (101 : Int32), (99 : Int32), (114 : Int32), (101 : Int32), (116 : Int32), (95 : Int32), (112 : Int32), (111 : Int32), (115 : Int32), (116 : Int32)].set ((p1 &&& (2147483647 : Int32)) % (18 : Int32)).toNatClampNeg (p2 &&& (255 : Int32)))) (c0 := r_47) i10_110 (hw _ wd_8) g55 A55 F58 F59 V57 (by rw [List.length_set]; rfl) (by rw [List.length_set]; exact Nat.le_of_ble_eq_true rfl) (by rw [List.length_set]; exact Nat.le_of_ble_eq_true rfl) hp56 hcs hcz Sf55 rfl (W := 1) rfl (by decide) (by decide) (k' := 3) rfl (n' := 40) (by rw [List.length_set]; rfl) (by decide) (by decide) fun T56 h56 t56 b56 X56 K56 y56 S56 => ?_
            refine X56.astore i10_113 rfl (Ls' := #[.val (.int p0), .val (.int p1), .val (.int p2), .val (.int p3), .val (.int (1 : Int32)), .val (.int (1 : Int32)), .val (.int (p2 &&& (255 : Int32))), .val (.int (((p2.toUInt32 >>> ((8 : Int32) &&& 31).toUInt32).toInt32) &&& (255 : Int32))), .val (.int (((p2.toUInt32 >>> ((16 : Int32) &&& 31).toUInt32).toInt32) &&& (255 : Int32))), .val (.int (0 : Int32)), .val (.ref a55), .val (.ref r_47), .val (.int ((p1 &&& (2147483647 : Int32)) % (18 : Int32)))]) rfl ?_
            refine X56.goto i10_115 j115_76 ?_
            exact J191a _ _ _ (X56.more (by decide) (by decide)) (ext_keep (ext_trans (ext_wr q47_0 W54 q47_1) E55) K56 (allS (Nat.le_trans q47_0.1 (Nat.le_trans (Keep.of_wr W54).1 (Nat.le_of_eq z55))) all0)) ((((r47).trans (CHr.wr W54 (Safe.arv X47.zw.alike q47_2 (by simp)) X47.chv)).trans (CHr.ext E55 X54.chv)).trans (CHr.keep K56 (sfS Sf55 sf0) X55.chv)) _ _ _ _ (by rw [List.length_set]; exact Nat.le_of_ble_eq_true rfl) S56 _ _
      · skip
        refine X.iload i10_61 rfl ?_
        refine X.ifY i10_63 j63_55 (by decide) ?_
        refine X.iload i10_118 rfl ?_
        refine X.iconst i10_120 (z := (1 : Int32)) rfl ?_
        refine X.icN i10_121 (by decide) ?_
        rcases hpb with rfl | rfl
        · skip
          refine X.iload i10_124 rfl ?_
          refine X.ifY i10_126 j126_11 (by decide) ?_
          refine X.iload i10_137 rfl ?_
          refine X.callS hl (argsL := [(.int (p2 &&& (255 : Int32)))]) i10_139 (c_bp l hw hEL hcs hcz hSB hSP hFB hFP hTB hTP hSV hEV hVV X.old (p2 &&& (255 : Int32)) (own_and255 _)) (hw _ wd_80) (hw _ wd_81) (hw _ wd_2) (hw _ wd_82) (by decide) sf_nil pd5 rfl rfl rfl (W := 0) rfl (by decide) (by decide) (k' := 1) rfl (n' := 20) rfl (by decide) (by decide) fun vm60 T60 h60 v60 X60 r60 Q60 => ?_
          obtain ⟨r_60, kc_60, rfl, q60_0, q60_1, q60_2⟩ := Q60
          have g61 := Nat.le_trans X.n0le q60_1
          show Go _ _ _ _ _ _ _ T60 142 #[.val (.int p0), .val (.int p1), .val (.int p2), .val (.int p3), .val (.int (0 : Int32)), .val (.int mb), .val (.int (p2 &&& (255 : Int32))), .val (.int (((p2.toUInt32 >>> ((8 : Int32) &&& 31).toUInt32).toInt32) &&& (255 : Int32))), .val (.int (((p2.toUInt32 >>> ((16 : Int32) &&& 31).toUInt32).toInt32) &&& (255 : Int32))), .val (.int (1 : Int32)), .unset, .unset, .unset] [(.ref r_60)]
          refine X60.astore i10_142 rfl (Ls' := #[.val (.int p0), .val (.int p1), .val (.int p2), .val (.int p3), .val (.int (0 : Int32)), .val (.int mb), .val (.int (p2 &&& (255 : Int32))), .val (.int (((p2.toUInt32 >>> ((8 : Int32) &&& 31).toUInt32).toInt32) &&& (255 : Int32))), .val (.int (((p2.toUInt32 >>> ((16 : Int32) &&& 31).toUInt32).toInt32) &&& (255 : Int32))), .val (.int (1 : Int32)), .unset, .val (.ref r_60), .unset]) rfl ?_
          refine X60.new i10_144 (hw _ wd_5) (hw _ wd_6) (hw _ wd_7) (k' := 2) rfl (n' := 24) rfl (by decide) (by decide) fun T62 h62 a62 X62 E62 z62 g62 A62 D62 U62 Sf62 => ?_
          refine X62.dup i10_147 rfl ?_
          refine X62.aload i10_148 rfl rfl ?_
          have V63 := (q60_2.ext E62)
          have F65 : Fld Z h62 a62 "java/lang/String" "value" "[B" .null := D62 (Or.inr (hw _ wd_33)) (ty := (.array .byte)) (by decide)
          have F66 : Fld Z h62 a62 "java/lang/String" "coder" "B" (.int (0 : Int32)) := D62 (Or.inr (hw _ wd_31)) (ty := .byte) (by decide)
          have hp64 : ∀ c ∈ ([(99 : Int32), (108 : Int32), (105 : Int32), (101 : Int32), (110 : Int32), (116 : Int32), (95 : Int32), (115 : Int32), (101 : Int32), (99 : Int32), (114 : Int32), (101 : Int32), (116 : Int32), (95 : Int32), (98 : Int32), (97 : Int32), (115 : Int32), (105 : Int32), (99 : Int32), (p2 &&& (255 : Int32))] : List Int32), ¬ c < 0 ∧ ¬ (255 : Int32) < c := (own_allS ⟨by decide, by decide⟩ (own_allS ⟨by decide, by decide⟩ (own_allS ⟨by decide, by decide⟩ (own_allS ⟨by decide, by decide⟩ (own_allS ⟨by decide, by decide⟩ (own_allS ⟨by decide, by decide⟩ (own_allS ⟨by decide, by decide⟩ (own_allS ⟨by decide, by decide⟩ (own_allS ⟨by decide, by decide⟩ (own_allS ⟨by decide, by decide⟩ (own_allS ⟨by decide, by decide⟩ (own_allS ⟨by decide, by decide⟩ (own_allS ⟨by decide, by decide⟩ (own_allS ⟨by decide, by decide⟩ (own_allS ⟨by decide, by decide⟩ (own_allS ⟨by decide, by decide⟩ (own_allS ⟨by decide, by decide⟩ (own_allS ⟨by decide, by decide⟩ (own_allS ⟨by decide, by decide⟩ (own_allS (own_and255 _) own_all0))))))))))))))))))))
          refine own_strInit X62 hw (cs := [(99 : Int32), (108 : Int32), (105 : Int32), (101 : Int32), (110 : Int32), (116 : Int32), (95 : Int32), (115 : Int32), (101 : Int32), (99 : Int32), (114 : Int32), (101 : Int32), (116 : Int32), (95 : Int32), (98 : Int32), (97 : Int32), (115 : Int32), (105 : Int32), (99 : Int32), (p2 &&& (255 : Int32))]) (c0 := r_60) i10_150 (hw _ wd_8) g62 A62 F65 F66 V63 rfl (Nat.le_of_ble_eq_true rfl) (Nat.le_of_ble_eq_true rfl) hp64 hcs hcz Sf62 rfl (W := 1) rfl (by decide) (by decide) (k' := 3) rfl (n' := 44) rfl (by decide) (by decide) fun T64 h64 t64 b64 X64 K64 y64 S64 => ?_
          refine X64.astore i10_153 rfl (Ls' := #[.val (.int p0), .val (.int p1), .val (.int p2), .val (.int p3), .val (.int (0 : Int32)), .val (.int mb), .val (.int (p2 &&& (255 : Int32))), .val (.int (((p2.toUInt32 >>> ((8 : Int32) &&& 31).toUInt32).toInt32) &&& (255 : Int32))), .val (.int (((p2.toUInt32 >>> ((16 : Int32) &&& 31).toUInt32).toInt32) &&& (255 : Int32))), .val (.int (1 : Int32)), .val (.ref a62), .val (.ref r_60), .unset]) rfl ?_
          refine X64.goto i10_155 j155_36 ?_
          exact J191b _ _ _ (X64.more (by decide) (by decide)) (ext_keep (ext_trans q60_0 E62) K64 (allS (Nat.le_trans q60_0.1 (Nat.le_of_eq z62)) all0)) (((r60).trans (CHr.ext E62 X60.chv)).trans (CHr.keep K64 (sfS Sf62 sf0) X62.chv)) _ _ _ _ (Nat.le_of_ble_eq_true rfl) S64 _
        · skip
          refine X.iload i10_124 rfl ?_
          refine X.ifN i10_126 (by decide) ?_
          refine X.iload i10_129 rfl ?_
          refine X.callS hl (argsL := [(.int (p2 &&& (255 : Int32)))]) i10_131 (c_pp l hw hEL hcs hcz hSB hSP hFB hFP hTB hTP hSV hEV hVV X.old (p2 &&& (255 : Int32)) (own_and255 _)) (hw _ wd_83) (hw _ wd_84) (hw _ wd_2) (hw _ wd_85) (by decide) sf_nil pd5 rfl rfl rfl (W := 0) rfl (by decide) (by decide) (k' := 1) rfl (n' := 19) rfl (by decide) (by decide) fun vm67 T67 h67 v67 X67 r67 Q67 => ?_
          obtain ⟨r_67, kc_67, rfl, q67_0, q67_1, q67_2⟩ := Q67
          have g68 := Nat.le_trans X.n0le q67_1
          show Go _ _ _ _ _ _ _ T67 134 #[.val (.int p0), .val (.int p1), .val (.int p2), .val (.int p3), .val (.int (1 : Int32)), .val (.int mb), .val (.int (p2 &&& (255 : Int32))), .val (.int (((p2.toUInt32 >>> ((8 : Int32) &&& 31).toUInt32).toInt32) &&& (255 : Int32))), .val (.int (((p2.toUInt32 >>> ((16 : Int32) &&& 31).toUInt32).toInt32) &&& (255 : Int32))), .val (.int (1 : Int32)), .unset, .unset, .unset] [(.ref r_67)]
          refine X67.goto i10_134 j134_8 ?_
          refine X67.astore i10_142 rfl (Ls' := #[.val (.int p0), .val (.int p1), .val (.int p2), .val (.int p3), .val (.int (1 : Int32)), .val (.int mb), .val (.int (p2 &&& (255 : Int32))), .val (.int (((p2.toUInt32 >>> ((8 : Int32) &&& 31).toUInt32).toInt32) &&& (255 : Int32))), .val (.int (((p2.toUInt32 >>> ((16 : Int32) &&& 31).toUInt32).toInt32) &&& (255 : Int32))), .val (.int (1 : Int32)), .unset, .val (.ref r_67), .unset]) rfl ?_
          refine X67.new i10_144 (hw _ wd_5) (hw _ wd_6) (hw _ wd_7) (k' := 2) rfl (n' := 23) rfl (by decide) (by decide) fun T69 h69 a69 X69 E69 z69 g69 A69 D69 U69 Sf69 => ?_
          refine X69.dup i10_147 rfl ?_
          refine X69.aload i10_148 rfl rfl ?_
          have V70 := (q67_2.ext E69)
          have F72 : Fld Z h69 a69 "java/lang/String" "value" "[B" .null := D69 (Or.inr (hw _ wd_33)) (ty := (.array .byte)) (by decide)
          have F73 : Fld Z h69 a69 "java/lang/String" "coder" "B" (.int (0 : Int32)) := D69 (Or.inr (hw _ wd_31)) (ty := .byte) (by decide)
          have hp71 : ∀ c ∈ ([(99 : Int32), (108 : Int32), (105 : Int32), (101 : Int32), (110 : Int32), (116 : Int32), (95 : Int32), (115 : Int32), (101 : Int32), (99 : Int32), (114 : Int32), (101 : Int32), (116 : Int32), (95 : Int32), (112 : Int32), (111 : Int32), (115 : Int32), (116 : Int32), (p2 &&& (255 : Int32))] : List Int32), ¬ c < 0 ∧ ¬ (255 : Int32) < c := (own_allS ⟨by decide, by decide⟩ (own_allS ⟨by decide, by decide⟩ (own_allS ⟨by decide, by decide⟩ (own_allS ⟨by decide, by decide⟩ (own_allS ⟨by decide, by decide⟩ (own_allS ⟨by decide, by decide⟩ (own_allS ⟨by decide, by decide⟩ (own_allS ⟨by decide, by decide⟩ (own_allS ⟨by decide, by decide⟩ (own_allS ⟨by decide, by decide⟩ (own_allS ⟨by decide, by decide⟩ (own_allS ⟨by decide, by decide⟩ (own_allS ⟨by decide, by decide⟩ (own_allS ⟨by decide, by decide⟩ (own_allS ⟨by decide, by decide⟩ (own_allS ⟨by decide, by decide⟩ (own_allS ⟨by decide, by decide⟩ (own_allS ⟨by decide, by decide⟩ (own_allS (own_and255 _) own_all0)))))))))))))))))))
          refine own_strInit X69 hw (cs := [(99 : Int32), (108 : Int32), (105 : Int32), (101 : Int32), (110 : Int32), (116 : Int32), (95 : Int32), (115 : Int32), (101 : Int32), (99 : Int32), (114 : Int32), (101 : Int32), (116 : Int32), (95 : Int32), (112 : Int32), (111 : Int32), (115 : Int32), (116 : Int32), (p2 &&& (255 : Int32))]) (c0 := r_67) i10_150 (hw _ wd_8) g69 A69 F72 F73 V70 rfl (Nat.le_of_ble_eq_true rfl) (Nat.le_of_ble_eq_true rfl) hp71 hcs hcz Sf69 rfl (W := 1) rfl (by decide) (by decide) (k' := 3) rfl (n' := 42) rfl (by decide) (by decide) fun T71 h71 t71 b71 X71 K71 y71 S71 => ?_
          refine X71.astore i10_153 rfl (Ls' := #[.val (.int p0), .val (.int p1), .val (.int p2), .val (.int p3), .val (.int (1 : Int32)), .val (.int mb), .val (.int (p2 &&& (255 : Int32))), .val (.int (((p2.toUInt32 >>> ((8 : Int32) &&& 31).toUInt32).toInt32) &&& (255 : Int32))), .val (.int (((p2.toUInt32 >>> ((16 : Int32) &&& 31).toUInt32).toInt32) &&& (255 : Int32))), .val (.int (1 : Int32)), .val (.ref a69), .val (.ref r_67), .unset]) rfl ?_
          refine X71.goto i10_155 j155_36 ?_
          exact J191b _ _ _ (X71.more (by decide) (by decide)) (ext_keep (ext_trans q67_0 E69) K71 (allS (Nat.le_trans q67_0.1 (Nat.le_of_eq z69)) all0)) (((r67).trans (CHr.ext E69 X67.chv)).trans (CHr.keep K71 (sfS Sf69 sf0) X69.chv)) _ _ _ _ (Nat.le_of_ble_eq_true rfl) S71 _
      · skip
        obtain ⟨pp, hpp⟩ : ∃ z, (p1 &&& (3 : Int32)) = z := ⟨_, rfl⟩
        have hp4 := own_and3 p1
        rw [hpp] at hp4
        rcases hp4 with rfl | rfl | rfl | rfl
        · skip
          refine X.iload i10_61 rfl ?_
          refine X.ifY i10_63 j63_55 (by decide) ?_
          refine X.iload i10_118 rfl ?_
          refine X.iconst i10_120 (z := (1 : Int32)) rfl ?_
          refine X.icY i10_121 j121_37 (by decide) ?_
          refine X.iload i10_158 rfl ?_
          refine X.iconst i10_160 (z := (2 : Int32)) rfl ?_
          refine X.icN i10_161 (by decide) ?_
          refine X.new i10_164 (hw _ wd_5) (hw _ wd_6) (hw _ wd_7) (k' := 1) rfl (n' := 4) rfl (by decide) (by decide) fun T74 h74 a74 X74 E74 z74 g74 A74 D74 U74 Sf74 => ?_
          refine X74.dup i10_167 rfl ?_
          refine X74.iload_n i10_168 rfl ?_
          refine X74.iconst i10_169 (z := (3 : Int32)) rfl ?_
          refine X74.iand i10_170 (z := (0 : Int32)) hpp ?_
          refine X74.iload i10_171 rfl ?_
          refine X74.iload i10_173 rfl ?_
          refine X74.iload i10_175 rfl ?_
          refine X74.callS hl (argsL := [(.int (0 : Int32)), (.int (p2 &&& (255 : Int32))), (.int (((p2.toUInt32 >>> ((8 : Int32) &&& 31).toUInt32).toInt32) &&& (255 : Int32))), (.int (((p2.toUInt32 >>> ((16 : Int32) &&& 31).toUInt32).toInt32) &&& (255 : Int32)))]) i10_177 (c_sh0 l hw hEL hcs hcz hSB hSP hFB hFP hTB hTP hSV hEV hVV X74.old (p2 &&& (255 : Int32)) (((p2.toUInt32 >>> ((8 : Int32) &&& 31).toUInt32).toInt32) &&& (255 : Int32)) (((p2.toUInt32 >>> ((16 : Int32) &&& 31).toUInt32).toInt32) &&& (255 : Int32)) (own_and255 _) (own_and255 _) (own_and255 _)) (hw _ wd_77) (hw _ wd_78) (hw _ wd_2) (hw _ wd_79) (by decide) sf_nil pd6 rfl rfl rfl (W := 2) rfl (by decide) (by decide) (k' := 2) rfl (n' := 4) rfl (by decide) (by decide) fun vm75 T75 h75 v75 X75 r75 Q75 => ?_
          obtain ⟨r_75, kc_75, rfl, q75_0, q75_1, q75_2⟩ := Q75
          have g76 := Nat.le_trans X74.n0le q75_1
          show Go _ _ _ _ _ _ _ T75 180 #[.val (.int p0), .val (.int p1), .val (.int p2), .val (.int p3), .val (.int pb), .val (.int mb), .val (.int (p2 &&& (255 : Int32))), .val (.int (((p2.toUInt32 >>> ((8 : Int32) &&& 31).toUInt32).toInt32) &&& (255 : Int32))), .val (.int (((p2.toUInt32 >>> ((16 : Int32) &&& 31).toUInt32).toInt32) &&& (255 : Int32))), .val (.int (2 : Int32)), .unset, .unset, .unset] [(.ref r_75), (.ref a74), (.ref a74)]
          have E77 := (A74.ext q75_0)
          have F78 : Fld Z h74 a74 "java/lang/String" "value" "[B" .null := D74 (Or.inr (hw _ wd_33)) (ty := (.array .byte)) (by decide)
          have F79 := (F78.ext q75_0)
          have F80 : Fld Z h74 a74 "java/lang/String" "coder" "B" (.int (0 : Int32)) := D74 (Or.inr (hw _ wd_31)) (ty := .byte) (by decide)
          have F81 := (F80.ext q75_0)
          have Sf83 := (r75).safe (A74).lt Sf74
          refine X75.callI hl (argsL := [(.ref r_75)]) (a := a74) i10_180 (c_se1 l hw hEL hcs hcz hSB hSP hFB hFP hTB hTP hSV hEV hVV X75.old a74 r_75 kc_75 (.int (0 : Int32)) E77 g74 F79 F81 q75_2) (hw _ wd_8) (hw _ wd_9) (hw _ wd_7) (hw _ wd_10) rfl (by decide) (sf_cons ⟨Sf83, (E77).lt⟩ sf_nil) pd7 rfl rfl rfl (W := 1) rfl (by decide) (by decide) (k' := 6) rfl (n' := 12) rfl (by decide) (by decide) fun vm82 T82 h82 v82 X82 r82 Q82 => ?_
          obtain ⟨t_82, kb_82, rfl, q82_0, q82_1⟩ := Q82
          show Go _ _ _ _ _ _ _ T82 183 #[.val (.int p0), .val (.int p1), .val (.int p2), .val (.int p3), .val (.int pb), .val (.int mb), .val (.int (p2 &&& (255 : Int32))), .val (.int (((p2.toUInt32 >>> ((8 : Int32) &&& 31).toUInt32).toInt32) &&& (255 : Int32))), .val (.int (((p2.toUInt32 >>> ((16 : Int32) &&& 31).toUInt32).toInt32) &&& (255 : Int32))), .val (.int (2 : Int32)), .unset, .unset, .unset] [(.ref a74)]
          refine X82.astore i10_183 rfl (Ls' := #[.val (.int p0), .val (.int p1), .val (.int p2), .val (.int p3), .val (.int pb), .val (.int mb), .val (.int (p2 &&& (255 : Int32))), .val (.int (((p2.toUInt32 >>> ((8 : Int32) &&& 31).toUInt32).toInt32) &&& (255 : Int32))), .val (.int (((p2.toUInt32 >>> ((16 : Int32) &&& 31).toUInt32).toInt32) &&& (255 : Int32))), .val (.int (2 : Int32)), .val (.ref a74), .unset, .unset]) rfl ?_
          refine X82.goto i10_185 j185_6 ?_
          exact J191c _ _ _ (X82.more (by decide) (by decide)) (ext_keep (ext_trans E74 q75_0) q82_0 (allS (Nat.le_of_eq z74) all0)) ((((CHr.ext E74 X.chv)).trans r75).trans r82) _ _ _ _ (Nat.le_of_ble_eq_true rfl) q82_1
        · skip
          refine X.iload i10_61 rfl ?_
          refine X.ifY i10_63 j63_55 (by decide) ?_
          refine X.iload i10_118 rfl ?_
          refine X.iconst i10_120 (z := (1 : Int32)) rfl ?_
          refine X.icY i10_121 j121_37 (by decide) ?_
          refine X.iload i10_158 rfl ?_
          refine X.iconst i10_160 (z := (2 : Int32)) rfl ?_
          refine X.icN i10_161 (by decide) ?_
          refine X.new i10_164 (hw _ wd_5) (hw _ wd_6) (hw _ wd_7) (k' := 1) rfl (n' := 4) rfl (by decide) (by decide) fun T84 h84 a84 X84 E84 z84 g84 A84 D84 U84 Sf84 => ?_
          refine X84.dup i10_167 rfl ?_
          refine X84.iload_n i10_168 rfl ?_
          refine X84.iconst i10_169 (z := (3 : Int32)) rfl ?_
          refine X84.iand i10_170 (z := (1 : Int32)) hpp ?_
          refine X84.iload i10_171 rfl ?_
          refine X84.iload i10_173 rfl ?_
          refine X84.iload i10_175 rfl ?_
          refine X84.callS hl (argsL := [(.int (1 : Int32)), (.int (p2 &&& (255 : Int32))), (.int (((p2.toUInt32 >>> ((8 : Int32) &&& 31).toUInt32).toInt32) &&& (255 : Int32))), (.int (((p2.toUInt32 >>> ((16 : Int32) &&& 31).toUInt32).toInt32) &&& (255 : Int32)))]) i10_177 (c_sh1 l hw hEL hcs hcz hSB hSP hFB hFP hTB hTP hSV hEV hVV X84.old (p2 &&& (255 : Int32)) (((p2.toUInt32 >>> ((8 : Int32) &&& 31).toUInt32).toInt32) &&& (255 : Int32)) (((p2.toUInt32 >>> ((16 : Int32) &&& 31).toUInt32).toInt32) &&& (255 : Int32)) (own_and255 _) (own_and255 _) (own_and255 _)) (hw _ wd_77) (hw _ wd_78) (hw _ wd_2) (hw _ wd_79) (by decide) sf_nil pd6 rfl rfl rfl (W := 2) rfl (by decide) (by decide) (k' := 2) rfl (n' := 5) rfl (by decide) (by decide) fun vm85 T85 h85 v85 X85 r85 Q85 => ?_
          obtain ⟨r_85, kc_85, rfl, q85_0, q85_1, q85_2⟩ := Q85
          have g86 := Nat.le_trans X84.n0le q85_1
          show Go _ _ _ _ _ _ _ T85 180 #[.val (.int p0), .val (.int p1), .val (.int p2), .val (.int p3), .val (.int pb), .val (.int mb), .val (.int (p2 &&& (255 : Int32))), .val (.int (((p2.toUInt32 >>> ((8 : Int32) &&& 31).toUInt32).toInt32) &&& (255 : Int32))), .val (.int (((p2.toUInt32 >>> ((16 : Int32) &&& 31).toUInt32).toInt32) &&& (255 : Int32))), .val (.int (2 : Int32)), .unset, .unset, .unset] [(.ref r_85), (.ref a84), (.ref a84)]
          have E88 := (A84.ext q85_0)
          have F89 : Fld Z h84 a84 "java/lang/String" "value" "[B" .null := D84 (Or.inr (hw _ wd_33)) (ty := (.array .byte)) (by decide)
          have F90 := (F89.ext q85_0)
          have F91 : Fld Z h84 a84 "java/lang/String" "coder" "B" (.int (0 : Int32)) := D84 (Or.inr (hw _ wd_31)) (ty := .byte) (by decide)
          have F92 := (F91.ext q85_0)
          have Sf93 := (r85).safe (A84).lt Sf84
          have hp87 : ∀ c ∈ ([(p2 &&& (255 : Int32))] : List Int32), ¬ c < 0 ∧ ¬ (255 : Int32) < c := (own_allS (own_and255 _) own_all0)
          refine own_strInit X85 hw (cs := [(p2 &&& (255 : Int32))]) (c0 := r_85) i10_180 (hw _ wd_8) g84 E88 F90 F92 q85_2 rfl (Nat.le_of_ble_eq_true rfl) (Nat.le_of_ble_eq_true rfl) hp87 hcs hcz Sf93 rfl (W := 1) rfl (by decide) (by decide) (k' := 3) rfl (n' := 6) rfl (by decide) (by decide) fun T87 h87 t87 b87 X87 K87 y87 S87 => ?_
          refine X87.astore i10_183 rfl (Ls' := #[.val (.int p0), .val (.int p1), .val (.int p2), .val (.int p3), .val (.int pb), .val (.int mb), .val (.int (p2 &&& (255 : Int32))), .val (.int (((p2.toUInt32 >>> ((8 : Int32) &&& 31).toUInt32).toInt32) &&& (255 : Int32))), .val (.int (((p2.toUInt32 >>> ((16 : Int32) &&& 31).toUInt32).toInt32) &&& (255 : Int32))), .val (.int (2 : Int32)), .val (.ref a84), .unset, .unset]) rfl ?_
          refine X87.goto i10_185 j185_6 ?_
          exact J191c _ _ _ (X87.more (by decide) (by decide)) (ext_keep (ext_trans E84 q85_0) K87 (allS (Nat.le_of_eq z84) all0)) ((((CHr.ext E84 X.chv)).trans r85).trans (CHr.keep K87 (sfS Sf93 sf0) X85.chv)) _ _ _ _ (Nat.le_of_ble_eq_true rfl) S87
        · skip
          refine X.iload i10_61 rfl ?_
          refine X.ifY i10_63 j63_55 (by decide) ?_
          refine X.iload i10_118 rfl ?_
          refine X.iconst i10_120 (z := (1 : Int32)) rfl ?_
          refine X.icY i10_121 j121_37 (by decide) ?_
          refine X.iload i10_158 rfl ?_
          refine X.iconst i10_160 (z := (2 : Int32)) rfl ?_
          refine X.icN i10_161 (by decide) ?_
          refine X.new i10_164 (hw _ wd_5) (hw _ wd_6) (hw _ wd_7) (k' := 1) rfl (n' := 4) rfl (by decide) (by decide) fun T94 h94 a94 X94 E94 z94 g94 A94 D94 U94 Sf94 => ?_
          refine X94.dup i10_167 rfl ?_
          refine X94.iload_n i10_168 rfl ?_
          refine X94.iconst i10_169 (z := (3 : Int32)) rfl ?_
          refine X94.iand i10_170 (z := (2 : Int32)) hpp ?_
          refine X94.iload i10_171 rfl ?_
          refine X94.iload i10_173 rfl ?_
          refine X94.iload i10_175 rfl ?_
          refine X94.callS hl (argsL := [(.int (2 : Int32)), (.int (p2 &&& (255 : Int32))), (.int (((p2.toUInt32 >>> ((8 : Int32) &&& 31).toUInt32).toInt32) &&& (255 : Int32))), (.int (((p2.toUInt32 >>> ((16 : Int32) &&& 31).toUInt32).toInt32) &&& (255 : Int32)))]) i10_177 (c_sh2 l hw hEL hcs hcz hSB hSP hFB hFP hTB hTP hSV hEV hVV X94.old (p2 &&& (255 : Int32)) (((p2.toUInt32 >>> ((8 : Int32) &&& 31).toUInt32).toInt32) &&& (255 : Int32)) (((p2.toUInt32 >>> ((16 : Int32) &&& 31).toUInt32).toInt32) &&& (255 : Int32)) (own_and255 _) (own_and255 _) (own_and255 _)) (hw _ wd_77) (hw _ wd_78) (hw _ wd_2) (hw _ wd_79) (by decide) sf_nil pd6 rfl rfl rfl (W := 2) rfl (by decide) (by decide) (k' := 2) rfl (n' := 6) rfl (by decide) (by decide) fun vm95 T95 h95 v95 X95 r95 Q95 => ?_
          obtain ⟨r_95, kc_95, rfl, q95_0, q95_1, q95_2⟩ := Q95
          have g96 := Nat.le_trans X94.n0le q95_1
          show Go _ _ _ _ _ _ _ T95 180 #[.val (.int p0), .val (.int p1), .val (.int p2), .val (.int p3), .val (.int pb), .val (.int mb), .val (.int (p2 &&& (255 : Int32))), .val (.int (((p2.toUInt32 >>> ((8 : Int32) &&& 31).toUInt32).toInt32) &&& (255 : Int32))), .val (.int (((p2.toUInt32 >>> ((16 : Int32) &&& 31).toUInt32).toInt32) &&& (255 : Int32))), .val (.int (2 : Int32)), .unset, .unset, .unset] [(.ref r_95), (.ref a94), (.ref a94)]
          have E98 := (A94.ext q95_0)
          have F99 : Fld Z h94 a94 "java/lang/String" "value" "[B" .null := D94 (Or.inr (hw _ wd_33)) (ty := (.array .byte)) (by decide)
          have F100 := (F99.ext q95_0)
          have F101 : Fld Z h94 a94 "java/lang/String" "coder" "B" (.int (0 : Int32)) := D94 (Or.inr (hw _ wd_31)) (ty := .byte) (by decide)
          have F102 := (F101.ext q95_0)
          have Sf103 := (r95).safe (A94).lt Sf94
          have hp97 : ∀ c ∈ ([(p2 &&& (255 : Int32)), (((p2.toUInt32 >>> ((8 : Int32) &&& 31).toUInt32).toInt32) &&& (255 : Int32))] : List Int32), ¬ c < 0 ∧ ¬ (255 : Int32) < c := (own_allS (own_and255 _) (own_allS (own_and255 _) own_all0))
          refine own_strInit X95 hw (cs := [(p2 &&& (255 : Int32)), (((p2.toUInt32 >>> ((8 : Int32) &&& 31).toUInt32).toInt32) &&& (255 : Int32))]) (c0 := r_95) i10_180 (hw _ wd_8) g94 E98 F100 F102 q95_2 rfl (Nat.le_of_ble_eq_true rfl) (Nat.le_of_ble_eq_true rfl) hp97 hcs hcz Sf103 rfl (W := 1) rfl (by decide) (by decide) (k' := 3) rfl (n' := 8) rfl (by decide) (by decide) fun T97 h97 t97 b97 X97 K97 y97 S97 => ?_
          refine X97.astore i10_183 rfl (Ls' := #[.val (.int p0), .val (.int p1), .val (.int p2), .val (.int p3), .val (.int pb), .val (.int mb), .val (.int (p2 &&& (255 : Int32))), .val (.int (((p2.toUInt32 >>> ((8 : Int32) &&& 31).toUInt32).toInt32) &&& (255 : Int32))), .val (.int (((p2.toUInt32 >>> ((16 : Int32) &&& 31).toUInt32).toInt32) &&& (255 : Int32))), .val (.int (2 : Int32)), .val (.ref a94), .unset, .unset]) rfl ?_
          refine X97.goto i10_185 j185_6 ?_
          exact J191c _ _ _ (X97.more (by decide) (by decide)) (ext_keep (ext_trans E94 q95_0) K97 (allS (Nat.le_of_eq z94) all0)) ((((CHr.ext E94 X.chv)).trans r95).trans (CHr.keep K97 (sfS Sf103 sf0) X95.chv)) _ _ _ _ (Nat.le_of_ble_eq_true rfl) S97
        · skip
          refine X.iload i10_61 rfl ?_
          refine X.ifY i10_63 j63_55 (by decide) ?_
          refine X.iload i10_118 rfl ?_
          refine X.iconst i10_120 (z := (1 : Int32)) rfl ?_
          refine X.icY i10_121 j121_37 (by decide) ?_
          refine X.iload i10_158 rfl ?_
          refine X.iconst i10_160 (z := (2 : Int32)) rfl ?_
          refine X.icN i10_161 (by decide) ?_
          refine X.new i10_164 (hw _ wd_5) (hw _ wd_6) (hw _ wd_7) (k' := 1) rfl (n' := 4) rfl (by decide) (by decide) fun T104 h104 a104 X104 E104 z104 g104 A104 D104 U104 Sf104 => ?_
          refine X104.dup i10_167 rfl ?_
          refine X104.iload_n i10_168 rfl ?_
          refine X104.iconst i10_169 (z := (3 : Int32)) rfl ?_
          refine X104.iand i10_170 (z := (3 : Int32)) hpp ?_
          refine X104.iload i10_171 rfl ?_
          refine X104.iload i10_173 rfl ?_
          refine X104.iload i10_175 rfl ?_
          refine X104.callS hl (argsL := [(.int (3 : Int32)), (.int (p2 &&& (255 : Int32))), (.int (((p2.toUInt32 >>> ((8 : Int32) &&& 31).toUInt32).toInt32) &&& (255 : Int32))), (.int (((p2.toUInt32 >>> ((16 : Int32) &&& 31).toUInt32).toInt32) &&& (255 : Int32)))]) i10_177 (c_sh3 l hw hEL hcs hcz hSB hSP hFB hFP hTB hTP hSV hEV hVV X104.old (p2 &&& (255 : Int32)) (((p2.toUInt32 >>> ((8 : Int32) &&& 31).toUInt32).toInt32) &&& (255 : Int32)) (((p2.toUInt32 >>> ((16 : Int32) &&& 31).toUInt32).toInt32) &&& (255 : Int32)) (own_and255 _) (own_and255 _) (own_and255 _)) (hw _ wd_77) (hw _ wd_78) (hw _ wd_2) (hw _ wd_79) (by decide) sf_nil pd6 rfl rfl rfl (W := 2) rfl (by decide) (by decide) (k' := 2) rfl (n' := 7) rfl (by decide) (by decide) fun vm105 T105 h105 v105 X105 r105 Q105 => ?_
          obtain ⟨r_105, kc_105, rfl, q105_0, q105_1, q105_2⟩ := Q105
          have g106 := Nat.le_trans X104.n0le q105_1
          show Go _ _ _ _ _ _ _ T105 180 #[.val (.int p0), .val (.int p1), .val (.int p2), .val (.int p3), .val (.int pb), .val (.int mb), .val (.int (p2 &&& (255 : Int32))), .val (.int (((p2.toUInt32 >>> ((8 : Int32) &&& 31).toUInt32).toInt32) &&& (255 : Int32))), .val (.int (((p2.toUInt32 >>> ((16 : Int32) &&& 31).toUInt32).toInt32) &&& (255 : Int32))), .val (.int (2 : Int32)), .unset, .unset, .unset] [(.ref r_105), (.ref a104), (.ref a104)]
          have E108 := (A104.ext q105_0)
          have F109 : Fld Z h104 a104 "java/lang/String" "value" "[B" .null := D104 (Or.inr (hw _ wd_33)) (ty := (.array .byte)) (by decide)
          have F110 := (F109.ext q105_0)
          have F111 : Fld Z h104 a104 "java/lang/String" "coder" "B" (.int (0 : Int32)) := D104 (Or.inr (hw _ wd_31)) (ty := .byte) (by decide)
          have F112 := (F111.ext q105_0)
          have Sf113 := (r105).safe (A104).lt Sf104
          have hp107 : ∀ c ∈ ([(p2 &&& (255 : Int32)), (((p2.toUInt32 >>> ((8 : Int32) &&& 31).toUInt32).toInt32) &&& (255 : Int32)), (((p2.toUInt32 >>> ((16 : Int32) &&& 31).toUInt32).toInt32) &&& (255 : Int32))] : List Int32), ¬ c < 0 ∧ ¬ (255 : Int32) < c := (own_allS (own_and255 _) (own_allS (own_and255 _) (own_allS (own_and255 _) own_all0)))
          refine own_strInit X105 hw (cs := [(p2 &&& (255 : Int32)), (((p2.toUInt32 >>> ((8 : Int32) &&& 31).toUInt32).toInt32) &&& (255 : Int32)), (((p2.toUInt32 >>> ((16 : Int32) &&& 31).toUInt32).toInt32) &&& (255 : Int32))]) (c0 := r_105) i10_180 (hw _ wd_8) g104 E108 F110 F112 q105_2 rfl (Nat.le_of_ble_eq_true rfl) (Nat.le_of_ble_eq_true rfl) hp107 hcs hcz Sf113 rfl (W := 1) rfl (by decide) (by decide) (k' := 3) rfl (n' := 10) rfl (by decide) (by decide) fun T107 h107 t107 b107 X107 K107 y107 S107 => ?_
          refine X107.astore i10_183 rfl (Ls' := #[.val (.int p0), .val (.int p1), .val (.int p2), .val (.int p3), .val (.int pb), .val (.int mb), .val (.int (p2 &&& (255 : Int32))), .val (.int (((p2.toUInt32 >>> ((8 : Int32) &&& 31).toUInt32).toInt32) &&& (255 : Int32))), .val (.int (((p2.toUInt32 >>> ((16 : Int32) &&& 31).toUInt32).toInt32) &&& (255 : Int32))), .val (.int (2 : Int32)), .val (.ref a104), .unset, .unset]) rfl ?_
          refine X107.goto i10_185 j185_6 ?_
          exact J191c _ _ _ (X107.more (by decide) (by decide)) (ext_keep (ext_trans E104 q105_0) K107 (allS (Nat.le_of_eq z104) all0)) ((((CHr.ext E104 X.chv)).trans r105).trans (CHr.keep K107 (sfS Sf113 sf0) X105.chv)) _ _ _ _ (Nat.le_of_ble_eq_true rfl) S107
      · skip
        refine X.iload i10_61 rfl ?_
        refine X.ifY i10_63 j63_55 (by decide) ?_
        refine X.iload i10_118 rfl ?_
        refine X.iconst i10_120 (z := (1 : Int32)) rfl ?_
        refine X.icY i10_121 j121_37 (by decide) ?_
        refine X.iload i10_158 rfl ?_
        refine X.iconst i10_160 (z := (2 : Int32)) rfl ?_
        refine X.icY i10_161 j161_27 (by decide) ?_
        refine X.aconst_null i10_188 ?_
        refine X.astore i10_189 rfl (Ls' := #[.val (.int p0), .val (.int p1), .val (.int p2), .val (.int p3), .val (.int pb), .val (.int mb), .val (.int (p2 &&& (255 : Int32))), .val (.int (((p2.toUInt32 >>> ((8 : Int32) &&& 31).toUInt32).toInt32) &&& (255 : Int32))), .val (.int (((p2.toUInt32 >>> ((16 : Int32) &&& 31).toUInt32).toInt32) &&& (255 : Int32))), .val (.int (3 : Int32)), .val .null, .unset, .unset]) rfl ?_
        refine X.aload i10_191 rfl rfl ?_
        refine X.nonnullN i10_193 ?_
        refine X.aconst_null i10_196 ?_
        refine X.astore i10_197 rfl (Ls' := #[.val (.int p0), .val (.int p1), .val (.int p2), .val (.int p3), .val (.int pb), .val (.int mb), .val (.int (p2 &&& (255 : Int32))), .val (.int (((p2.toUInt32 >>> ((8 : Int32) &&& 31).toUInt32).toInt32) &&& (255 : Int32))), .val (.int (((p2.toUInt32 >>> ((16 : Int32) &&& 31).toUInt32).toInt32) &&& (255 : Int32))), .val (.int (3 : Int32)), .val .null, .val .null, .unset]) rfl ?_
        refine X.goto i10_199 j199_42 ?_
        refine X.aload i10_241 rfl rfl ?_
        refine X.callS hl (argsL := [.null]) i10_243 (c_named0 l hw hEL hcs hcz hSB hSP hFB hFP hTB hTP hSV hEV hVV X.old  ) (hw _ wd_51) (hw _ wd_52) (hw _ wd_49) (hw _ wd_53) (by decide) sf_nil pd3 rfl rfl rfl (W := 0) rfl (by decide) (by decide) (k' := 1) rfl (n' := 2) rfl (by decide) (by decide) fun vm114 T114 h114 v114 X114 r114 Q114 => ?_
        obtain ⟨rfl, q114_0⟩ := Q114
        show Go _ _ _ _ _ _ _ T114 246 #[.val (.int p0), .val (.int p1), .val (.int p2), .val (.int p3), .val (.int pb), .val (.int mb), .val (.int (p2 &&& (255 : Int32))), .val (.int (((p2.toUInt32 >>> ((8 : Int32) &&& 31).toUInt32).toInt32) &&& (255 : Int32))), .val (.int (((p2.toUInt32 >>> ((16 : Int32) &&& 31).toUInt32).toInt32) &&& (255 : Int32))), .val (.int (3 : Int32)), .val .null, .val .null, .unset] [.null]
        refine X114.aload i10_246 rfl rfl ?_
        refine X114.acN i10_248 rfl rfl (XT.aa_ne_f rfl) ?_
        refine X114.iconst i10_251 (z := (1 : Int32)) rfl ?_
        refine X114.goto i10_252 j252_4 ?_
        exact X114.ireturn i10_256 (t := .boolean) rfl (by decide) rfl (by decide) (by decide) rfl
    by_cases hc : (p0 &&& (4 : Int32)) = 0
    · skip
      refine X.ifY i10_16 j16_7 (XT.i0_eq_t hc) ?_
      refine X.iconst i10_23 (z := (0 : Int32)) rfl ?_
      exact J24 _ (Or.inl rfl)
    · skip
      refine X.ifN i10_16 (XT.i0_eq_f hc) ?_
      refine X.iconst i10_19 (z := (1 : Int32)) rfl ?_
      refine X.goto i10_20 j20_4 ?_
      exact J24 _ (Or.inr rfl)
  by_cases hc : (p3 &&& (1 : Int32)) = 0
  · skip
    refine X.ifY i10_3 j3_7 (XT.i0_eq_t hc) ?_
    refine X.iconst i10_10 (z := (0 : Int32)) rfl ?_
    exact J11 _ (Or.inl rfl)
  · skip
    refine X.ifN i10_3 (XT.i0_eq_f hc) ?_
    refine X.iconst i10_6 (z := (1 : Int32)) rfl ?_
    refine X.goto i10_7 j7_4 ?_
    exact J11 _ (Or.inr rfl)
set_option maxRecDepth 65536 in
set_option maxHeartbeats 40000000 in
theorem comes_1 {Post : Tables → Env → Array Value → State → Outcome → State → Prop} (hpost : ∀ tb e args s v u, (limb_1_1.after args s (.returned v) u = true ∧ limb_1_2.after args s (.returned v) u = true ∧ True) → ReturnedEndW s (.returned v) u (Jvm.fieldLocs frame_1_writes args s ++ Jvm.arrayLocs frame_1_arrays args s ++ Jvm.staticLocs frame_1_statics s) 24 3264 → Post tb e args s (.returned v) u) :
    ArmFor flags0 classFile x code maxLocals ret World_1 tables_1 room_1 Calls_1 rest_1 Pre_1 Post := by
  intro l hfl _ _ p e ha hc hk s m args below hf hA hF happ hP
  obtain ⟨hcalls, hrest, hpre⟩ := hP
  obtain ⟨-, -, -, hnamed, -, -, -, hat⟩ := (Spec.applies_iff hf).mp happ
  obtain ⟨hg, hn⟩ := and_e (Cond.before_iff.mp (show (Jvm.Cond.and given_1 narrow_1).before args s = true from hpre))
  obtain ⟨hcnt, hg⟩ := and_e hg
  obtain ⟨ha0, hg⟩ := and_e hg
  obtain ⟨ha1, hg⟩ := and_e hg
  obtain ⟨ha2, hg⟩ := and_e hg
  obtain ⟨w0, w1, w2, w3, rfl⟩ : ∃ w0 w1 w2 w3 : Value, args = #[w0, w1, w2, w3] := by
    have hs : args.size = 4 := by simpa [Cond.value, given_1] using hcnt
    obtain ⟨L⟩ := args
    match L, hs with
    | [w0, w1, w2, w3], _ => exact ⟨w0, w1, w2, w3, rfl⟩
  have hw := fun d (hd : d ∈ tables_1) => atoms_spec (ws := Jvm.Cond.code x code maxLocals ret :: tables_1) hat d (List.mem_cons_of_mem _ hd)
  obtain ⟨hsets, hown0⟩ := atoms_of _ (rest_1_c_eq ▸ (show rest_1_c.before _ s = true from hrest))
  have hfit : Fit s := fun {y c} hc i hi => by
    obtain ⟨ha, rfl⟩ := Array.getElem?_eq_some_iff.mp hc
    have q := List.all_eq_true.mp ((Array.all_eq_true_iff_forall_mem.mp hF) _ (Array.getElem_mem ha)) i (List.mem_range.mpr hi)
    simpa [Array.getElem?_eq_getElem hi] using q
  obtain ⟨p0, e0⟩ := is_v ha0
  obtain rfl : w0 = (.int p0) := Option.some.inj e0
  obtain ⟨p1, e1⟩ := is_v ha1
  obtain rfl : w1 = (.int p1) := Option.some.inj e1
  obtain ⟨p2, e2⟩ := is_v ha2
  obtain rfl : w2 = (.int p2) := Option.some.inj e2
  obtain ⟨p3, e3⟩ := is_v hg
  obtain rfl : w3 = (.int p3) := Option.some.inj e3
  have n5 := not_v (Cond.before_iff.mp (hsets _ (List.mem_of_getElem? (i := 2) rfl)))
  obtain ⟨zc, ec⟩ := is_v (Cond.before_iff.mp (hsets _ (List.mem_of_getElem? (i := 1) rfl)))
  have hcs : Sta s s.heap "java/lang/String" "COMPACT_STRINGS" "Z" (.int zc) := Sta.start ec (Or.inl (hsets _ (List.mem_of_getElem? (i := 0) rfl)))
  have hcz : ¬ (zc = (0 : Int32)) := gotF (Cond.eq_ints ec (Term.int_eval (0))) n5
  obtain ⟨c0, hn⟩ := and_e hn
  obtain ⟨c1, hn⟩ := and_e hn
  obtain ⟨c2, hn⟩ := and_e hn
  obtain ⟨c3, hn⟩ := and_e hn
  obtain ⟨c4, hn⟩ := and_e hn
  obtain ⟨c5, hn⟩ := and_e hn
  obtain ⟨c6, hn⟩ := and_e hn
  obtain ⟨c7, hn⟩ := and_e hn
  obtain ⟨c8, hn⟩ := and_e hn
  obtain ⟨c9, hn⟩ := and_e hn
  obtain ⟨c10, hn⟩ := and_e hn
  obtain ⟨c11, hn⟩ := and_e hn
  obtain ⟨c12, hn⟩ := and_e hn
  obtain ⟨c13, hn⟩ := and_e hn
  obtain ⟨c14, hn⟩ := and_e hn
  obtain ⟨c15, hn⟩ := and_e hn
  obtain ⟨c16, hn⟩ := and_e hn
  obtain ⟨c17, hn⟩ := and_e hn
  obtain ⟨c18, hn⟩ := and_e hn
  obtain ⟨c19, hn⟩ := and_e hn
  obtain ⟨c20, hn⟩ := and_e hn
  obtain ⟨c21, hn⟩ := and_e hn
  obtain ⟨c22, hn⟩ := and_e hn
  obtain ⟨c23, hn⟩ := and_e hn
  obtain ⟨c24, hn⟩ := and_e hn
  obtain ⟨c25, hn⟩ := and_e hn
  obtain ⟨c26, hn⟩ := and_e hn
  obtain ⟨c27, hn⟩ := and_e hn
  obtain ⟨c28, hn⟩ := and_e hn
  obtain ⟨c29, hn⟩ := and_e hn
  obtain ⟨c30, hn⟩ := and_e hn
  obtain ⟨c31, hn⟩ := and_e hn
  obtain ⟨c32, hn⟩ := and_e hn
  obtain ⟨c33, hn⟩ := and_e hn
  obtain ⟨c34, hn⟩ := and_e hn
  obtain ⟨c35, hn⟩ := and_e hn
  obtain ⟨c36, hn⟩ := and_e hn
  obtain ⟨c37, hn⟩ := and_e hn
  obtain ⟨c38, hn⟩ := and_e hn
  obtain ⟨c39, hn⟩ := and_e hn
  obtain ⟨c40, hn⟩ := and_e hn
  obtain ⟨c41, hn⟩ := and_e hn
  obtain ⟨c42, hn⟩ := and_e hn
  obtain ⟨c43, hn⟩ := and_e hn
  obtain ⟨c44, hn⟩ := and_e hn
  obtain ⟨c45, hn⟩ := and_e hn
  obtain ⟨c46, hn⟩ := and_e hn
  obtain ⟨c47, hn⟩ := and_e hn
  obtain ⟨c48, hn⟩ := and_e hn
  obtain ⟨c49, hn⟩ := and_e hn
  obtain ⟨c50, hn⟩ := and_e hn
  have c51 := hn
  obtain ⟨eB, xB⟩ := exa_v c4
  have hSB : Sta s s.heap "com/example/grant/grant/providers/ClientAuthentication" "BASIC" "Lcom/example/grant/grant/providers/ClientAuthentication;" (.ref eB) := Sta.start xB (Or.inr ⟨(hw _ wd_49), (hw _ wd_66)⟩)
  obtain ⟨eP, xP⟩ := exa_v c0
  have hSP : Sta s s.heap "com/example/grant/grant/providers/ClientAuthentication" "POST" "Lcom/example/grant/grant/providers/ClientAuthentication;" (.ref eP) := Sta.start xP (Or.inr ⟨(hw _ wd_49), (hw _ wd_50)⟩)
  obtain ⟨eV, xV⟩ := arr_v c1
  have hSV : Sta s s.heap "com/example/grant/grant/providers/ClientAuthentication" "$VALUES" "[Lcom/example/grant/grant/providers/ClientAuthentication;" (.ref eV) := Sta.start xV (Or.inr ⟨(hw _ wd_49), (hw _ wd_58)⟩)
  have hEV : Exa s s.heap eV "[Lcom/example/grant/grant/providers/ClientAuthentication;" := Exa.start xV c2
  obtain ⟨kV, hVV⟩ := own_arrStart (dv := .null) (vs := [(.ref eB), (.ref eP)]) hfit xV c1 c3 (by decide) rfl (fun cl hc => ⟨own_elemAt xV (own_eqR c5 xB) hc, own_elemAt xV (own_eqR c6 xP) hc, trivial⟩)
  obtain ⟨mB, ymB⟩ := exa_v c7
  have hFB : Fld s s.heap eB "com/example/grant/grant/providers/ClientAuthentication" "method" "Ljava/lang/String;" (.ref mB) := own_fldStart xB ymB
  obtain ⟨tB, ztB⟩ := arr_v c9
  obtain ⟨bB, vbB⟩ := own_arrStart (dv := .int 0) (vs := [.int (99 : Int32), .int (108 : Int32), .int (105 : Int32), .int (101 : Int32), .int (110 : Int32), .int (116 : Int32), .int (95 : Int32), .int (115 : Int32), .int (101 : Int32), .int (99 : Int32), .int (114 : Int32), .int (101 : Int32), .int (116 : Int32), .int (95 : Int32), .int (98 : Int32), .int (97 : Int32), .int (115 : Int32), .int (105 : Int32), .int (99 : Int32)]) hfit ztB c9 c10 (by decide) (by decide) (fun cl hc => ⟨own_elemAt ztB (own_eqI c15) hc, own_elemAt ztB (own_eqI c16) hc, own_elemAt ztB (own_eqI c17) hc, own_elemAt ztB (own_eqI c18) hc, own_elemAt ztB (own_eqI c19) hc, own_elemAt ztB (own_eqI c20) hc, own_elemAt ztB (own_eqI c21) hc, own_elemAt ztB (own_eqI c22) hc, own_elemAt ztB (own_eqI c23) hc, own_elemAt ztB (own_eqI c24) hc, own_elemAt ztB (own_eqI c25) hc, own_elemAt ztB (own_eqI c26) hc, own_elemAt ztB (own_eqI c27) hc, own_elemAt ztB (own_eqI c28) hc, own_elemAt ztB (own_eqI c29) hc, own_elemAt ztB (own_eqI c30) hc, own_elemAt ztB (own_eqI c31) hc, own_elemAt ztB (own_eqI c32) hc, own_elemAt ztB (own_eqI c33) hc, trivial⟩)
  have hTB : Str s s.heap mB tB bB own_csB := ⟨Exa.start ymB c7, own_fldStart ymB ztB, own_fldStart ymB (own_eqI c8), by rw [own_bB]; exact vbB, own_lB⟩
  obtain ⟨mP, ymP⟩ := exa_v c11
  have hFP : Fld s s.heap eP "com/example/grant/grant/providers/ClientAuthentication" "method" "Ljava/lang/String;" (.ref mP) := own_fldStart xP ymP
  obtain ⟨tP, ztP⟩ := arr_v c13
  obtain ⟨bP, vbP⟩ := own_arrStart (dv := .int 0) (vs := [.int (99 : Int32), .int (108 : Int32), .int (105 : Int32), .int (101 : Int32), .int (110 : Int32), .int (116 : Int32), .int (95 : Int32), .int (115 : Int32), .int (101 : Int32), .int (99 : Int32), .int (114 : Int32), .int (101 : Int32), .int (116 : Int32), .int (95 : Int32), .int (112 : Int32), .int (111 : Int32), .int (115 : Int32), .int (116 : Int32)]) hfit ztP c13 c14 (by decide) (by decide) (fun cl hc => ⟨own_elemAt ztP (own_eqI c34) hc, own_elemAt ztP (own_eqI c35) hc, own_elemAt ztP (own_eqI c36) hc, own_elemAt ztP (own_eqI c37) hc, own_elemAt ztP (own_eqI c38) hc, own_elemAt ztP (own_eqI c39) hc, own_elemAt ztP (own_eqI c40) hc, own_elemAt ztP (own_eqI c41) hc, own_elemAt ztP (own_eqI c42) hc, own_elemAt ztP (own_eqI c43) hc, own_elemAt ztP (own_eqI c44) hc, own_elemAt ztP (own_eqI c45) hc, own_elemAt ztP (own_eqI c46) hc, own_elemAt ztP (own_eqI c47) hc, own_elemAt ztP (own_eqI c48) hc, own_elemAt ztP (own_eqI c49) hc, own_elemAt ztP (own_eqI c50) hc, own_elemAt ztP (own_eqI c51) hc, trivial⟩)
  have hTP : Str s s.heap mP tP bP own_csP := ⟨Exa.start ymP c11, own_fldStart ymP ztP, own_fldStart ymP (own_eqI c12), by rw [own_bP]; exact vbP, own_lP⟩
  have hEL : EW s (_ : Array Value) own_EL := (EW.cons (hw _ wd_34) lt1_a (EW.cons (hw _ wd_47) lt2_a (EW.cons (hw _ wd_87) lt0_a EW.nil)))
  have hCH : CHv s own_EL s.vm s.heap := CHv.start hEL hcalls.1 (Cond.before_iff.mpr (not_i (nay (Cond.eq_ints ec (Term.int_eval (0))) hcz)) : Jvm.Lit.compactW.before _ s = true) (hw _ wd_23) (hw _ wd_6)
  obtain ⟨n, o, h1, h2, h3, _, L, rfl, ⟨rfl, N, -⟩, -, hq⟩ := own_law l hw hEL hcs hcz hSB hSP hFB hFP hTB hTP hSV hEV hVV p0 p1 p2 p3 p e ha hc hk s m _ below hf ((Spec.applies_iff_loose hf).mp happ).1 ⟨rfl, State.Warmed39.refl s, rfl, hCH, fun _ z => nomatch z⟩ trivial
  refine ⟨n, _, h1, h2, h3, hpost _ _ _ _ _ _ ⟨Cond.after_iff.mpr rfl, Cond.after_iff.mpr (eq_i res_at (Term.int_eval (1)) rfl), trivial⟩ ⟨hq.1.1, hq.1.2.1, hq.1.2.2.1, (hq.1.2.2.2.sift fun y hy => Or.inr (N y hy)).mono (by decide) (by decide)⟩⟩
theorem main_1_1 : Claimed_1_1 := comes_1 fun _ _ _ _ _ _ h hF => ⟨h.1, hF⟩
theorem main_1_2 : Claimed_1_2 := comes_1 fun _ _ _ _ _ _ h hF => ⟨h.2.1, hF⟩
end Jvm.Pilot.@@N@@
namespace Jvm.Pilot.@@N@@
open Jvm Jvm.ClassFile Sem Op Lib Jvm.Free Jvm.Stand Jvm.Pilot.@@N@@.Jvm.D
/-! MADE BY PROGRAM (witnessworld.py) out of the Statement's table words and the real class files: 22 classes; the members and pool entries that the words name. The judged class is class 1, her method 6. -/
namespace start1
open Jvm.ClassFile
def u (s : String) : CpInfo := .utf8 (stringToUtf16 s)
/-- a pool by its gaps: so many unusable entries, then the entry; so many at the end -/
def gap : Nat → List CpInfo → List CpInfo
  | 0, r => r
  | n + 1, r => .unusable :: gap n r
def poolList (es : List (Nat × CpInfo)) (last : Nat) : List CpInfo := es.foldr (fun e r => gap e.1 (e.2 :: r)) (gap last [])
def pool (es : List (Nat × CpInfo)) (last : Nat) : Array CpInfo := ⟨poolList es last⟩
def fileOf (pool : Array CpInfo) (this : Nat) (attrs : Array Attribute := #[]) (ms : Array MethodInfo := #[]) (fl : Nat := 33) (sup : Nat := 0) (ifs : Array Nat := #[]) (fds : Array FieldInfo := #[]) : ClassFile where
  minorVersion := 0
  majorVersion := 65
  constantPool := pool
  accessFlags := fl
  thisClass := this
  superClass := sup
  interfaces := ifs
  fields := fds
  methods := ms
  attributes := attrs
def plain (name : String) (sup : Option ClassId) : Class where
  name := name
  kind := .ordinary
  loader := none
  accessFlags := 33
  super := sup
  interfaces := #[]
  cf := none
  fields := #[]
  methods := #[]
  instanceTypes := #[]
  staticTypes := #[]
  resolved := #[]
  callSites := []
  init := .initialized
  statics := none
  mirror := none

def pool0 : Array CpInfo := pool [(5, u "<init>"), (0, u "()V"), (1, .class_ 10), (1, u "java/lang/Object"), (85, u "clone"), (0, u "()Ljava/lang/Object;")] 26

def k0c0 : Code := { maxStack := 0, maxLocals := 1, code := object_method_1_code, exceptionTable := #[], attributes := #[] }
def k0m0 : Method := { name := "<init>", desc := "()V", sig := { parameters := [], returnType := none }, accessFlags := 1, code := some k0c0 }
def k0m1 : Method := { name := "clone", desc := "()Ljava/lang/Object;", sig := { parameters := [], returnType := some (.object "java/lang/Object") }, accessFlags := 260, code := none }
/-- java/lang/Object -/
def k0 : Class := { plain "java/lang/Object" none with
  accessFlags := 33
  interfaces := #[]
  cf := some (fileOf pool0 8 #[] #[{ accessFlags := 1, nameIndex := 5, descriptorIndex := 6, attributes := #[] }, { accessFlags := 260, nameIndex := 96, descriptorIndex := 97, attributes := #[] }] 33 0 #[] #[])
  fields := #[]
  methods := #[k0m0, k0m1]
  instanceTypes := #[]
  staticTypes := #[]
  resolved := Array.replicate 124 none
  statics := none }

def pool1 : Array CpInfo := pool [(2, .class_ 4), (1, u "java/lang/Object"), (0, u "<init>"), (0, u "()V"), (0, .methodref 8 9), (0, .class_ 10), (0, .nameAndType 11 12), (0, u "com/example/grant/grant/providers/ClientAuthenticationNamedPinLaw"), (0, u "postName"), (0, u "()[C"), (0, .methodref 8 14), (0, .nameAndType 15 12), (0, u "basicName"), (0, .integer 2147483647), (0, .class_ 18), (0, u "java/lang/String"), (0, .methodref 17 20), (0, .nameAndType 5 21), (0, u "([C)V"), (0, .methodref 8 23), (0, .nameAndType 24 25), (0, u "postPlus"), (0, u "(C)[C"), (0, .methodref 8 27), (0, .nameAndType 28 25), (0, u "basicPlus"), (0, .methodref 8 30), (0, .nameAndType 31 32), (0, u "shortText"), (0, u "(ICCC)[C"), (0, .string 34), (0, u "client_secret_basic"), (0, .methodref 17 36), (0, .nameAndType 37 38), (0, u "equals"), (0, u "(Ljava/lang/Object;)Z"), (0, .fieldref 40 41), (0, .class_ 42), (0, .nameAndType 43 44), (0, u "com/example/grant/grant/providers/ClientAuthentication"), (0, u "BASIC"), (0, u "Lcom/example/grant/grant/providers/ClientAuthentication;"), (0, .string 46), (0, u "client_secret_post"), (0, .fieldref 40 48), (0, .nameAndType 49 44), (0, u "POST"), (0, .methodref 40 51), (0, .nameAndType 52 53), (0, u "named"), (0, u "(Ljava/lang/String;)Lcom/example/grant/grant/providers/ClientAuthentication;"), (3, u "law"), (0, u "(IIII)Z")] 4

def k1m0 : Method := { name := "<init>", desc := "()V", sig := { parameters := [], returnType := none }, accessFlags := 1, code := none }
def k1c1 : Code := { maxStack := 4, maxLocals := 0, code := method_2_code, exceptionTable := #[], attributes := #[] }
def k1m1 : Method := { name := "basicName", desc := "()[C", sig := { parameters := [], returnType := some (.array .char) }, accessFlags := 10, code := some k1c1 }
def k1c2 : Code := { maxStack := 4, maxLocals := 0, code := method_3_code, exceptionTable := #[], attributes := #[] }
def k1m2 : Method := { name := "postName", desc := "()[C", sig := { parameters := [], returnType := some (.array .char) }, accessFlags := 10, code := some k1c2 }
def k1c3 : Code := { maxStack := 4, maxLocals := 1, code := method_4_code, exceptionTable := #[], attributes := #[] }
def k1m3 : Method := { name := "basicPlus", desc := "(C)[C", sig := { parameters := [.char], returnType := some (.array .char) }, accessFlags := 10, code := some k1c3 }
def k1c4 : Code := { maxStack := 4, maxLocals := 1, code := method_5_code, exceptionTable := #[], attributes := #[] }
def k1m4 : Method := { name := "postPlus", desc := "(C)[C", sig := { parameters := [.char], returnType := some (.array .char) }, accessFlags := 10, code := some k1c4 }
def k1c5 : Code := { maxStack := 4, maxLocals := 4, code := method_6_code, exceptionTable := #[], attributes := #[] }
def k1m5 : Method := { name := "shortText", desc := "(ICCC)[C", sig := { parameters := [.int, .char, .char, .char], returnType := some (.array .char) }, accessFlags := 10, code := some k1c5 }
def k1c6 : Code := { maxStack := 6, maxLocals := 13, code := code, exceptionTable := #[], attributes := #[] }
def k1m6 : Method := { name := "law", desc := "(IIII)Z", sig := { parameters := [.int, .int, .int, .int], returnType := some .boolean }, accessFlags := 9, code := some k1c6 }
/-- com/example/grant/grant/providers/ClientAuthenticationNamedPinLaw -/
def k1 : Class := { plain "com/example/grant/grant/providers/ClientAuthenticationNamedPinLaw" (some 0) with
  accessFlags := 49
  interfaces := #[]
  cf := some (fileOf pool1 8 #[] #[{ accessFlags := 1, nameIndex := 5, descriptorIndex := 6, attributes := #[] }, { accessFlags := 10, nameIndex := 15, descriptorIndex := 12, attributes := #[] }, { accessFlags := 10, nameIndex := 11, descriptorIndex := 12, attributes := #[] }, { accessFlags := 10, nameIndex := 28, descriptorIndex := 25, attributes := #[] }, { accessFlags := 10, nameIndex := 24, descriptorIndex := 25, attributes := #[] }, { accessFlags := 10, nameIndex := 31, descriptorIndex := 32, attributes := #[] }, { accessFlags := 9, nameIndex := 57, descriptorIndex := 58, attributes := #[] }] 49 2 #[] #[])
  fields := #[]
  methods := #[k1m0, k1m1, k1m2, k1m3, k1m4, k1m5, k1m6]
  instanceTypes := #[]
  staticTypes := #[]
  resolved := Array.replicate 63 none
  statics := none }

def pool2 : Array CpInfo := pool [(1, .class_ 2), (0, u "java/io/Serializable"), (0, .class_ 4), (0, u "java/lang/Object")] 2

/-- java/io/Serializable -/
def k2 : Class := { plain "java/io/Serializable" (some 0) with
  accessFlags := 1537
  interfaces := #[]
  cf := some (fileOf pool2 1 #[] #[] 1537 3 #[] #[])
  fields := #[]
  methods := #[]
  instanceTypes := #[]
  staticTypes := #[]
  resolved := Array.replicate 7 none
  statics := none }

def pool3 : Array CpInfo := pool [(1, .class_ 2), (0, u "java/lang/Comparable"), (0, .class_ 4), (0, u "java/lang/Object")] 7

/-- java/lang/Comparable -/
def k3 : Class := { plain "java/lang/Comparable" (some 0) with
  accessFlags := 1537
  interfaces := #[]
  cf := some (fileOf pool3 1 #[] #[] 1537 3 #[] #[])
  fields := #[]
  methods := #[]
  instanceTypes := #[]
  staticTypes := #[]
  resolved := Array.replicate 12 none
  statics := none }

def pool4 : Array CpInfo := pool [(2, .class_ 4), (1, u "java/lang/CharSequence"), (42, .class_ 48), (0, u "java/lang/CharSequence$1CodePointIterator"), (10, .class_ 60), (0, u "java/lang/CharSequence$1CharIterator"), (5, .class_ 67), (0, u "java/lang/Object")] 63

/-- java/lang/CharSequence -/
def k4 : Class := { plain "java/lang/CharSequence" (some 0) with
  accessFlags := 1537
  interfaces := #[]
  cf := some (fileOf pool4 2 #[.nestMembers #[47, 59]] #[] 1537 66 #[] #[])
  fields := #[]
  methods := #[]
  instanceTypes := #[]
  staticTypes := #[]
  resolved := Array.replicate 131 none
  statics := none }

def pool5 : Array CpInfo := pool [(1, .class_ 2), (0, u "java/lang/constant/Constable"), (0, .class_ 4), (0, u "java/lang/Object")] 6

/-- java/lang/constant/Constable -/
def k5 : Class := { plain "java/lang/constant/Constable" (some 0) with
  accessFlags := 1537
  interfaces := #[]
  cf := some (fileOf pool5 1 #[] #[] 1537 3 #[] #[])
  fields := #[]
  methods := #[]
  instanceTypes := #[]
  staticTypes := #[]
  resolved := Array.replicate 11 none
  statics := none }

def pool6 : Array CpInfo := pool [(1, .class_ 2), (0, u "java/lang/constant/ConstantDesc"), (0, .class_ 4), (0, u "java/lang/Object")] 32

/-- java/lang/constant/ConstantDesc -/
def k6 : Class := { plain "java/lang/constant/ConstantDesc" (some 0) with
  accessFlags := 1537
  interfaces := #[]
  cf := some (fileOf pool6 1 #[] #[] 1537 3 #[] #[])
  fields := #[]
  methods := #[]
  instanceTypes := #[]
  staticTypes := #[]
  resolved := Array.replicate 37 none
  statics := none }

def pool7 : Array CpInfo := pool [(1, .methodref 2 3), (0, .class_ 4), (0, .nameAndType 5 6), (0, u "java/lang/Object"), (0, u "<init>"), (0, u "()V"), (0, .string 8), (0, u ""), (0, .fieldref 10 11), (0, .class_ 12), (0, .nameAndType 13 14), (0, u "java/lang/String"), (0, u "value"), (0, u "[B"), (0, .fieldref 10 16), (0, .nameAndType 17 18), (0, u "coder"), (0, u "B"), (2, u "hash"), (0, u "I"), (2, u "hashIsZero"), (0, u "Z"), (0, .methodref 10 28), (0, .nameAndType 5 29), (0, u "([CIILjava/lang/Void;)V"), (8, .fieldref 10 39), (0, .nameAndType 40 26), (0, u "COMPACT_STRINGS"), (1, .class_ 44), (1, u "java/lang/StringUTF16"), (0, u "compress"), (1, .methodref 42 48), (0, .nameAndType 49 50), (0, u "coderFromArrayLen"), (0, u "([BI)B"), (56, .class_ 109), (1, u "java/lang/StringLatin1"), (67, .methodref 42 178), (0, .nameAndType 45 179), (0, u "([CII)[B"), (361, .methodref 107 542), (0, .nameAndType 543 544), (0, u "equals"), (0, u "([B[B)Z"), (28, u "(Ljava/lang/Object;)Z"), (1, .class_ 576), (0, u "java/lang/CharSequence"), (22, u "CASE_INSENSITIVE_ORDER"), (0, u "Ljava/util/Comparator;"), (409, u "([C)V"), (90, u "serialPersistentFields"), (0, u "[Ljava/io/ObjectStreamField;"), (0, .class_ 1104), (0, u "java/lang/String$CaseInsensitiveComparator"), (1, .class_ 1107), (0, u "java/io/Serializable"), (0, .class_ 1109), (0, u "java/lang/Comparable"), (0, .class_ 1111), (0, u "java/lang/constant/Constable"), (0, .class_ 1113), (0, u "java/lang/constant/ConstantDesc"), (2, u "serialVersionUID"), (0, u "J"), (3, u "REPL"), (0, u "C"), (2, u "LATIN1"), (1, u "UTF16")] 323

def k7m0 : Method := { name := "<init>", desc := "()V", sig := { parameters := [], returnType := none }, accessFlags := 1, code := none }
def k7c1 : Code := { maxStack := 5, maxLocals := 2, code := jdk_42_method_3_code, exceptionTable := #[], attributes := #[] }
def k7m1 : Method := { name := "<init>", desc := "([C)V", sig := { parameters := [(.array .char)], returnType := none }, accessFlags := 1, code := some k7c1 }
def k7c2 : Code := { maxStack := 2, maxLocals := 3, code := jdk_42_method_66_code, exceptionTable := #[], attributes := #[] }
def k7m2 : Method := { name := "equals", desc := "(Ljava/lang/Object;)Z", sig := { parameters := [(.object "java/lang/Object")], returnType := some .boolean }, accessFlags := 1, code := some k7c2 }
def k7c3 : Code := { maxStack := 4, maxLocals := 6, code := jdk_42_method_149_code, exceptionTable := #[], attributes := #[] }
def k7m3 : Method := { name := "<init>", desc := "([CIILjava/lang/Void;)V", sig := { parameters := [(.array .char), .int, .int, (.object "java/lang/Void")], returnType := none }, accessFlags := 2, code := some k7c3 }
/-- java/lang/String -/
def k7 : Class := { plain "java/lang/String" (some 0) with
  accessFlags := 49
  interfaces := #[2, 3, 4, 5, 6]
  cf := some (fileOf pool7 10 #[.nestMembers #[1103]] #[{ accessFlags := 1, nameIndex := 5, descriptorIndex := 6, attributes := #[] }, { accessFlags := 1, nameIndex := 5, descriptorIndex := 1010, attributes := #[] }, { accessFlags := 1, nameIndex := 543, descriptorIndex := 573, attributes := #[] }, { accessFlags := 2, nameIndex := 5, descriptorIndex := 29, attributes := #[] }] 49 2 #[1106, 1108, 575, 1110, 1112] #[{ accessFlags := 18, nameIndex := 13, descriptorIndex := 14, attributes := #[] }, { accessFlags := 18, nameIndex := 17, descriptorIndex := 18, attributes := #[] }, { accessFlags := 2, nameIndex := 21, descriptorIndex := 22, attributes := #[] }, { accessFlags := 2, nameIndex := 25, descriptorIndex := 26, attributes := #[] }, { accessFlags := 26, nameIndex := 1116, descriptorIndex := 1117, attributes := #[] }, { accessFlags := 24, nameIndex := 40, descriptorIndex := 26, attributes := #[] }, { accessFlags := 26, nameIndex := 1101, descriptorIndex := 1102, attributes := #[] }, { accessFlags := 26, nameIndex := 1121, descriptorIndex := 1122, attributes := #[] }, { accessFlags := 25, nameIndex := 599, descriptorIndex := 600, attributes := #[] }, { accessFlags := 24, nameIndex := 1125, descriptorIndex := 18, attributes := #[] }, { accessFlags := 24, nameIndex := 1127, descriptorIndex := 18, attributes := #[] }])
  fields := #[{ name := "value", type := (.array .byte), accessFlags := 18, slot := 0, constantValue := 0 }, { name := "coder", type := .byte, accessFlags := 18, slot := 1, constantValue := 0 }, { name := "hash", type := .int, accessFlags := 2, slot := 2, constantValue := 0 }, { name := "hashIsZero", type := .boolean, accessFlags := 2, slot := 3, constantValue := 0 }, { name := "serialVersionUID", type := .long, accessFlags := 26, slot := 0, constantValue := 0 }, { name := "COMPACT_STRINGS", type := .boolean, accessFlags := 24, slot := 1, constantValue := 0 }, { name := "serialPersistentFields", type := (.array (.object "java/io/ObjectStreamField")), accessFlags := 26, slot := 2, constantValue := 0 }, { name := "REPL", type := .char, accessFlags := 26, slot := 3, constantValue := 0 }, { name := "CASE_INSENSITIVE_ORDER", type := (.object "java/util/Comparator"), accessFlags := 25, slot := 4, constantValue := 0 }, { name := "LATIN1", type := .byte, accessFlags := 24, slot := 5, constantValue := 0 }, { name := "UTF16", type := .byte, accessFlags := 24, slot := 6, constantValue := 0 }]
  methods := #[k7m0, k7m1, k7m2, k7m3]
  instanceTypes := #[(.array .byte), .byte, .int, .boolean]
  staticTypes := #[.long, .boolean, (.array (.object "java/io/ObjectStreamField")), .char, (.object "java/util/Comparator"), .byte, .byte]
  resolved := Array.replicate 1451 none
  statics := some 0 }

def pool8 : Array CpInfo := pool [(6, .class_ 8), (1, u "java/lang/Object"), (0, u "<init>"), (0, u "()V"), (1, .class_ 14), (1, u "java/lang/StringUTF16"), (31, u "$assertionsDisabled"), (0, u "Z"), (13, u "HI_BYTE_SHIFT"), (0, u "I"), (2, u "LO_BYTE_SHIFT"), (49, .methodref 12 116), (0, .nameAndType 117 118), (0, u "compress"), (0, u "([CI[BII)I"), (3, u "([CII)[B"), (138, u "coderFromArrayLen"), (0, u "([BI)B"), (106, .class_ 371), (1, u "java/lang/StringUTF16$LinesSpliterator"), (58, u "MAX_LENGTH"), (196, .class_ 628), (0, u "java/lang/StringUTF16$CodePointsSpliterator"), (0, .class_ 630), (0, u "java/lang/StringUTF16$CharsSpliterator")] 4

def k8m0 : Method := { name := "<init>", desc := "()V", sig := { parameters := [], returnType := none }, accessFlags := 0, code := none }
def k8c1 : Code := { maxStack := 2, maxLocals := 2, code := jdk_52_method_15_code, exceptionTable := #[], attributes := #[] }
def k8m1 : Method := { name := "coderFromArrayLen", desc := "([BI)B", sig := { parameters := [(.array .byte), .int], returnType := some .byte }, accessFlags := 8, code := some k8c1 }
def k8c2 : Code := { maxStack := 5, maxLocals := 6, code := jdk_52_method_16_code, exceptionTable := #[], attributes := #[] }
def k8m2 : Method := { name := "compress", desc := "([CII)[B", sig := { parameters := [(.array .char), .int, .int], returnType := some (.array .byte) }, accessFlags := 9, code := some k8c2 }
def k8c3 : Code := { maxStack := 3, maxLocals := 7, code := jdk_52_method_21_code, exceptionTable := #[], attributes := #[] }
def k8m3 : Method := { name := "compress", desc := "([CI[BII)I", sig := { parameters := [(.array .char), .int, (.array .byte), .int, .int], returnType := some .int }, accessFlags := 9, code := some k8c3 }
/-- java/lang/StringUTF16 -/
def k8 : Class := { plain "java/lang/StringUTF16" (some 0) with
  accessFlags := 48
  interfaces := #[]
  cf := some (fileOf pool8 12 #[.nestMembers #[627, 629, 369]] #[{ accessFlags := 0, nameIndex := 9, descriptorIndex := 10, attributes := #[] }, { accessFlags := 8, nameIndex := 261, descriptorIndex := 262, attributes := #[] }, { accessFlags := 9, nameIndex := 117, descriptorIndex := 122, attributes := #[] }, { accessFlags := 9, nameIndex := 117, descriptorIndex := 118, attributes := #[] }] 48 6 #[] #[{ accessFlags := 26, nameIndex := 61, descriptorIndex := 62, attributes := #[] }, { accessFlags := 26, nameIndex := 65, descriptorIndex := 62, attributes := #[] }, { accessFlags := 24, nameIndex := 430, descriptorIndex := 62, attributes := #[] }, { accessFlags := 4120, nameIndex := 46, descriptorIndex := 47, attributes := #[] }])
  fields := #[{ name := "HI_BYTE_SHIFT", type := .int, accessFlags := 26, slot := 0, constantValue := 0 }, { name := "LO_BYTE_SHIFT", type := .int, accessFlags := 26, slot := 1, constantValue := 0 }, { name := "MAX_LENGTH", type := .int, accessFlags := 24, slot := 2, constantValue := 0 }, { name := "$assertionsDisabled", type := .boolean, accessFlags := 4120, slot := 3, constantValue := 0 }]
  methods := #[k8m0, k8m1, k8m2, k8m3]
  instanceTypes := #[]
  staticTypes := #[.int, .int, .int, .boolean]
  resolved := Array.replicate 635 none
  statics := none }

def pool9 : Array CpInfo := pool [(4, .class_ 6), (1, u "java/lang/Object"), (0, u "<init>"), (0, u "()V"), (5, .class_ 16), (1, u "java/lang/StringLatin1"), (104, u "$assertionsDisabled"), (0, u "Z"), (98, .class_ 223), (1, u "java/lang/StringLatin1$LinesSpliterator"), (57, u "equals"), (0, u "([B[B)Z"), (107, .class_ 391), (0, u "java/lang/StringLatin1$CharsSpliterator")] 3

def k9m0 : Method := { name := "<init>", desc := "()V", sig := { parameters := [], returnType := none }, accessFlags := 0, code := none }
def k9c1 : Code := { maxStack := 3, maxLocals := 3, code := jdk_43_method_13_code, exceptionTable := #[], attributes := #[] }
def k9m1 : Method := { name := "equals", desc := "([B[B)Z", sig := { parameters := [(.array .byte), (.array .byte)], returnType := some .boolean }, accessFlags := 9, code := some k9c1 }
/-- java/lang/StringLatin1 -/
def k9 : Class := { plain "java/lang/StringLatin1" (some 0) with
  accessFlags := 48
  interfaces := #[]
  cf := some (fileOf pool9 14 #[.nestMembers #[390, 221]] #[{ accessFlags := 0, nameIndex := 7, descriptorIndex := 8, attributes := #[] }, { accessFlags := 9, nameIndex := 281, descriptorIndex := 282, attributes := #[] }] 48 4 #[] #[{ accessFlags := 4120, nameIndex := 121, descriptorIndex := 122, attributes := #[] }])
  fields := #[{ name := "$assertionsDisabled", type := .boolean, accessFlags := 4120, slot := 0, constantValue := 0 }]
  methods := #[k9m0, k9m1]
  instanceTypes := #[]
  staticTypes := #[.boolean]
  resolved := Array.replicate 395 none
  statics := none }

def pool10 : Array CpInfo := pool [(2, .class_ 4), (1, u "java/lang/Enum"), (0, u "name"), (0, u "Ljava/lang/String;"), (2, u "ordinal"), (0, u "I"), (1, .class_ 14), (1, u "java/lang/Object"), (4, u "hash"), (86, .class_ 108), (1, u "java/lang/Enum$EnumDesc"), (2, .class_ 112), (0, u "java/lang/constant/Constable"), (0, .class_ 114), (0, u "java/lang/Comparable"), (0, .class_ 116), (0, u "java/io/Serializable")] 87

/-- java/lang/Enum -/
def k10 : Class := { plain "java/lang/Enum" (some 0) with
  accessFlags := 1057
  interfaces := #[5, 3, 2]
  cf := some (fileOf pool10 2 #[.nestMembers #[106]] #[] 1057 12 #[111, 113, 115] #[{ accessFlags := 18, nameIndex := 5, descriptorIndex := 6, attributes := #[] }, { accessFlags := 18, nameIndex := 9, descriptorIndex := 10, attributes := #[] }, { accessFlags := 2, nameIndex := 19, descriptorIndex := 10, attributes := #[] }])
  fields := #[{ name := "name", type := (.object "java/lang/String"), accessFlags := 18, slot := 0, constantValue := 0 }, { name := "ordinal", type := .int, accessFlags := 18, slot := 1, constantValue := 0 }, { name := "hash", type := .int, accessFlags := 2, slot := 2, constantValue := 0 }]
  methods := #[]
  instanceTypes := #[(.object "java/lang/String"), .int, .int]
  staticTypes := #[]
  resolved := Array.replicate 204 none
  statics := none }

def pool11 : Array CpInfo := pool [(1, .class_ 2), (0, u "com/example/grant/grant/providers/ClientAuthentication"), (2, u "BASIC"), (0, u "Lcom/example/grant/grant/providers/ClientAuthentication;"), (2, u "POST"), (0, .fieldref 1 11), (0, .nameAndType 12 13), (0, u "$VALUES"), (0, u "[Lcom/example/grant/grant/providers/ClientAuthentication;"), (0, .methodref 15 16), (0, .class_ 13), (0, .nameAndType 17 18), (0, u "clone"), (0, u "()Ljava/lang/Object;"), (1, .class_ 22), (1, u "java/lang/Enum"), (6, .fieldref 1 30), (0, .nameAndType 31 32), (0, u "method"), (0, u "Ljava/lang/String;"), (0, .methodref 1 34), (0, .nameAndType 35 36), (0, u "values"), (0, u "()[Lcom/example/grant/grant/providers/ClientAuthentication;"), (0, .methodref 38 39), (0, .class_ 40), (0, .nameAndType 41 42), (0, u "java/lang/String"), (0, u "equals"), (0, u "(Ljava/lang/Object;)Z"), (95, u "RULE"), (2, u "(Ljava/lang/String;)Lcom/example/grant/grant/providers/ClientAuthentication;"), (4, u "named")] 46

def k11c0 : Code := { maxStack := 1, maxLocals := 0, code := prog_12_method_1_code, exceptionTable := #[], attributes := #[] }
def k11m0 : Method := { name := "values", desc := "()[Lcom/example/grant/grant/providers/ClientAuthentication;", sig := { parameters := [], returnType := some (.array (.object "com/example/grant/grant/providers/ClientAuthentication")) }, accessFlags := 9, code := some k11c0 }
def k11c1 : Code := { maxStack := 2, maxLocals := 5, code := prog_12_method_5_code, exceptionTable := #[], attributes := #[] }
def k11m1 : Method := { name := "named", desc := "(Ljava/lang/String;)Lcom/example/grant/grant/providers/ClientAuthentication;", sig := { parameters := [(.object "java/lang/String")], returnType := some (.object "com/example/grant/grant/providers/ClientAuthentication") }, accessFlags := 9, code := some k11c1 }
/-- com/example/grant/grant/providers/ClientAuthentication -/
def k11 : Class := { plain "com/example/grant/grant/providers/ClientAuthentication" (some 10) with
  accessFlags := 16433
  interfaces := #[]
  cf := some (fileOf pool11 1 #[] #[{ accessFlags := 9, nameIndex := 35, descriptorIndex := 36, attributes := #[] }, { accessFlags := 9, nameIndex := 146, descriptorIndex := 141, attributes := #[] }] 16433 20 #[] #[{ accessFlags := 16409, nameIndex := 5, descriptorIndex := 6, attributes := #[] }, { accessFlags := 16409, nameIndex := 9, descriptorIndex := 6, attributes := #[] }, { accessFlags := 25, nameIndex := 138, descriptorIndex := 32, attributes := #[] }, { accessFlags := 18, nameIndex := 31, descriptorIndex := 32, attributes := #[] }, { accessFlags := 4122, nameIndex := 12, descriptorIndex := 13, attributes := #[] }])
  fields := #[{ name := "BASIC", type := (.object "com/example/grant/grant/providers/ClientAuthentication"), accessFlags := 16409, slot := 0, constantValue := 0 }, { name := "POST", type := (.object "com/example/grant/grant/providers/ClientAuthentication"), accessFlags := 16409, slot := 1, constantValue := 0 }, { name := "RULE", type := (.object "java/lang/String"), accessFlags := 25, slot := 2, constantValue := 0 }, { name := "method", type := (.object "java/lang/String"), accessFlags := 18, slot := 3, constantValue := 0 }, { name := "$VALUES", type := (.array (.object "com/example/grant/grant/providers/ClientAuthentication")), accessFlags := 4122, slot := 3, constantValue := 0 }]
  methods := #[k11m0, k11m1]
  instanceTypes := #[(.object "java/lang/String"), .int, .int, (.object "java/lang/String")]
  staticTypes := #[(.object "com/example/grant/grant/providers/ClientAuthentication"), (.object "com/example/grant/grant/providers/ClientAuthentication"), (.object "java/lang/String"), (.array (.object "com/example/grant/grant/providers/ClientAuthentication"))]
  resolved := Array.replicate 193 none
  statics := some 1 }

def pool12 : Array CpInfo := pool [(1, .class_ 2), (0, u "java/lang/Cloneable"), (0, .class_ 4), (0, u "java/lang/Object")] 2

/-- java/lang/Cloneable -/
def k12 : Class := { plain "java/lang/Cloneable" (some 0) with
  accessFlags := 1537
  interfaces := #[]
  cf := some (fileOf pool12 1 #[] #[] 1537 3 #[] #[])
  fields := #[]
  methods := #[]
  instanceTypes := #[]
  staticTypes := #[]
  resolved := Array.replicate 7 none
  statics := none }

def pool13 : Array CpInfo := pool [(2, .class_ 4), (1, u "java/lang/Object"), (0, u "<init>"), (0, u "()V"), (17, .class_ 26), (1, u "jdk/internal/util/Preconditions"), (28, .class_ 56), (0, u "jdk/internal/util/Preconditions$4"), (57, .class_ 115), (0, u "jdk/internal/util/Preconditions$1"), (7, u "SIOOBE_FORMATTER"), (0, u "Ljava/util/function/BiFunction;"), (0, .class_ 126), (0, u "jdk/internal/util/Preconditions$2"), (3, u "AIOOBE_FORMATTER"), (0, .class_ 132), (0, u "jdk/internal/util/Preconditions$3"), (3, u "IOOBE_FORMATTER")] 57

def k13m0 : Method := { name := "<init>", desc := "()V", sig := { parameters := [], returnType := none }, accessFlags := 1, code := none }
/-- jdk/internal/util/Preconditions -/
def k13 : Class := { plain "jdk/internal/util/Preconditions" (some 0) with
  accessFlags := 33
  interfaces := #[]
  cf := some (fileOf pool13 24 #[.nestMembers #[55, 131, 125, 114]] #[{ accessFlags := 1, nameIndex := 5, descriptorIndex := 6, attributes := #[] }] 33 2 #[] #[{ accessFlags := 25, nameIndex := 123, descriptorIndex := 124, attributes := #[] }, { accessFlags := 25, nameIndex := 130, descriptorIndex := 124, attributes := #[] }, { accessFlags := 25, nameIndex := 136, descriptorIndex := 124, attributes := #[] }])
  fields := #[{ name := "SIOOBE_FORMATTER", type := (.object "java/util/function/BiFunction"), accessFlags := 25, slot := 0, constantValue := 0 }, { name := "AIOOBE_FORMATTER", type := (.object "java/util/function/BiFunction"), accessFlags := 25, slot := 1, constantValue := 0 }, { name := "IOOBE_FORMATTER", type := (.object "java/util/function/BiFunction"), accessFlags := 25, slot := 2, constantValue := 0 }]
  methods := #[k13m0]
  instanceTypes := #[]
  staticTypes := #[(.object "java/util/function/BiFunction"), (.object "java/util/function/BiFunction"), (.object "java/util/function/BiFunction")]
  resolved := Array.replicate 194 none
  statics := some 2 }

def pool14 : Array CpInfo := pool [(9, u "<init>"), (6, .class_ 18), (1, u "java/lang/Object"), (0, u "()V"), (1, .class_ 23), (1, u "jdk/internal/util/ArraysSupport"), (0, u "LOG2_ARRAY_LONG_INDEX_SCALE"), (0, u "I"), (2, u "U"), (0, u "Ljdk/internal/misc/Unsafe;"), (8, u "BIG_ENDIAN"), (0, u "Z"), (8, u "LOG2_BYTE_BIT_SIZE"), (4, u "LOG2_ARRAY_INT_INDEX_SCALE"), (54, u "JLA"), (0, u "Ljdk/internal/access/JavaLangAccess;"), (11, u "LOG2_ARRAY_BOOLEAN_INDEX_SCALE"), (9, u "LOG2_ARRAY_BYTE_INDEX_SCALE"), (5, u "LOG2_ARRAY_CHAR_INDEX_SCALE"), (5, u "LOG2_ARRAY_SHORT_INDEX_SCALE"), (18, u "LOG2_ARRAY_FLOAT_INDEX_SCALE"), (24, u "LOG2_ARRAY_DOUBLE_INDEX_SCALE"), (89, u "T_BOOLEAN"), (2, u "T_CHAR"), (1, u "T_FLOAT"), (1, u "T_DOUBLE"), (1, u "T_BYTE"), (1, u "T_SHORT"), (1, u "T_INT"), (1, u "T_LONG"), (1, u "SOFT_MAX_ARRAY_LENGTH")] 83

def k14m0 : Method := { name := "<init>", desc := "()V", sig := { parameters := [], returnType := none }, accessFlags := 2, code := none }
/-- jdk/internal/util/ArraysSupport -/
def k14 : Class := { plain "jdk/internal/util/ArraysSupport" (some 0) with
  accessFlags := 33
  interfaces := #[]
  cf := some (fileOf pool14 21 #[] #[{ accessFlags := 2, nameIndex := 9, descriptorIndex := 19, attributes := #[] }] 33 16 #[] #[{ accessFlags := 24, nameIndex := 28, descriptorIndex := 29, attributes := #[] }, { accessFlags := 26, nameIndex := 38, descriptorIndex := 39, attributes := #[] }, { accessFlags := 25, nameIndex := 121, descriptorIndex := 25, attributes := #[] }, { accessFlags := 25, nameIndex := 131, descriptorIndex := 25, attributes := #[] }, { accessFlags := 25, nameIndex := 137, descriptorIndex := 25, attributes := #[] }, { accessFlags := 25, nameIndex := 143, descriptorIndex := 25, attributes := #[] }, { accessFlags := 25, nameIndex := 53, descriptorIndex := 25, attributes := #[] }, { accessFlags := 25, nameIndex := 24, descriptorIndex := 25, attributes := #[] }, { accessFlags := 25, nameIndex := 162, descriptorIndex := 25, attributes := #[] }, { accessFlags := 25, nameIndex := 187, descriptorIndex := 25, attributes := #[] }, { accessFlags := 26, nameIndex := 48, descriptorIndex := 25, attributes := #[] }, { accessFlags := 25, nameIndex := 277, descriptorIndex := 25, attributes := #[] }, { accessFlags := 25, nameIndex := 280, descriptorIndex := 25, attributes := #[] }, { accessFlags := 25, nameIndex := 282, descriptorIndex := 25, attributes := #[] }, { accessFlags := 25, nameIndex := 284, descriptorIndex := 25, attributes := #[] }, { accessFlags := 25, nameIndex := 286, descriptorIndex := 25, attributes := #[] }, { accessFlags := 25, nameIndex := 288, descriptorIndex := 25, attributes := #[] }, { accessFlags := 25, nameIndex := 290, descriptorIndex := 25, attributes := #[] }, { accessFlags := 25, nameIndex := 292, descriptorIndex := 25, attributes := #[] }, { accessFlags := 26, nameIndex := 108, descriptorIndex := 109, attributes := #[] }, { accessFlags := 25, nameIndex := 294, descriptorIndex := 25, attributes := #[] }])
  fields := #[{ name := "U", type := (.object "jdk/internal/misc/Unsafe"), accessFlags := 24, slot := 0, constantValue := 0 }, { name := "BIG_ENDIAN", type := .boolean, accessFlags := 26, slot := 1, constantValue := 0 }, { name := "LOG2_ARRAY_BOOLEAN_INDEX_SCALE", type := .int, accessFlags := 25, slot := 2, constantValue := 0 }, { name := "LOG2_ARRAY_BYTE_INDEX_SCALE", type := .int, accessFlags := 25, slot := 3, constantValue := 0 }, { name := "LOG2_ARRAY_CHAR_INDEX_SCALE", type := .int, accessFlags := 25, slot := 4, constantValue := 0 }, { name := "LOG2_ARRAY_SHORT_INDEX_SCALE", type := .int, accessFlags := 25, slot := 5, constantValue := 0 }, { name := "LOG2_ARRAY_INT_INDEX_SCALE", type := .int, accessFlags := 25, slot := 6, constantValue := 0 }, { name := "LOG2_ARRAY_LONG_INDEX_SCALE", type := .int, accessFlags := 25, slot := 7, constantValue := 0 }, { name := "LOG2_ARRAY_FLOAT_INDEX_SCALE", type := .int, accessFlags := 25, slot := 8, constantValue := 0 }, { name := "LOG2_ARRAY_DOUBLE_INDEX_SCALE", type := .int, accessFlags := 25, slot := 9, constantValue := 0 }, { name := "LOG2_BYTE_BIT_SIZE", type := .int, accessFlags := 26, slot := 10, constantValue := 0 }, { name := "T_BOOLEAN", type := .int, accessFlags := 25, slot := 11, constantValue := 0 }, { name := "T_CHAR", type := .int, accessFlags := 25, slot := 12, constantValue := 0 }, { name := "T_FLOAT", type := .int, accessFlags := 25, slot := 13, constantValue := 0 }, { name := "T_DOUBLE", type := .int, accessFlags := 25, slot := 14, constantValue := 0 }, { name := "T_BYTE", type := .int, accessFlags := 25, slot := 15, constantValue := 0 }, { name := "T_SHORT", type := .int, accessFlags := 25, slot := 16, constantValue := 0 }, { name := "T_INT", type := .int, accessFlags := 25, slot := 17, constantValue := 0 }, { name := "T_LONG", type := .int, accessFlags := 25, slot := 18, constantValue := 0 }, { name := "JLA", type := (.object "jdk/internal/access/JavaLangAccess"), accessFlags := 26, slot := 19, constantValue := 0 }, { name := "SOFT_MAX_ARRAY_LENGTH", type := .int, accessFlags := 25, slot := 20, constantValue := 0 }]
  methods := #[k14m0]
  instanceTypes := #[]
  staticTypes := #[(.object "jdk/internal/misc/Unsafe"), .boolean, .int, .int, .int, .int, .int, .int, .int, .int, .int, .int, .int, .int, .int, .int, .int, .int, .int, (.object "jdk/internal/access/JavaLangAccess"), .int]
  resolved := Array.replicate 378 none
  statics := none }

/-- the primitive byte -/
def k15 : Class := { plain "byte" none with kind := .primitive 'B', accessFlags := 0x411 }
/-- [B -/
def k16 : Class := { plain "[B" (some 0) with kind := .array 15 .byte, interfaces := #[12, 2], accessFlags := 1041 }

/-- the primitive char -/
def k17 : Class := { plain "char" none with kind := .primitive 'C', accessFlags := 0x411 }
/-- [C -/
def k18 : Class := { plain "[C" (some 0) with kind := .array 17 .char, interfaces := #[12, 2], accessFlags := 1041 }

/-- the primitive int -/
def k19 : Class := { plain "int" none with kind := .primitive 'I', accessFlags := 0x411 }
/-- [I -/
def k20 : Class := { plain "[I" (some 0) with kind := .array 19 .int, interfaces := #[12, 2], accessFlags := 1041 }

/-- [Lcom/example/grant/grant/providers/ClientAuthentication; -/
def k21 : Class := { plain "[Lcom/example/grant/grant/providers/ClientAuthentication;" (some 0) with kind := .array 11 (.object "com/example/grant/grant/providers/ClientAuthentication"), interfaces := #[12, 2], accessFlags := 1041 }

def heap : Heap := #[{ cls := 7, slots := #[.long 0, .int 1, .null, .int 0, .null, .int 0, .int 0], vm := .statics 7 },
  { cls := 11, slots := #[.ref 4, .ref 5, .null, .ref 3], vm := .statics 11 },
  { cls := 13, slots := #[.null, .null, .null], vm := .statics 13 },
  { cls := 21, slots := #[.ref 4, .ref 5], vm := .none },
  { cls := 11, slots := #[.null, .int 0, .int 0, .ref 6], vm := .none },
  { cls := 11, slots := #[.null, .int 1, .int 0, .ref 7], vm := .none },
  { cls := 7, slots := #[.ref 8, .int 0, .int 0, .int 0], vm := .none },
  { cls := 7, slots := #[.ref 9, .int 0, .int 0, .int 0], vm := .none },
  { cls := 16, slots := #[.int 99, .int 108, .int 105, .int 101, .int 110, .int 116, .int 95, .int 115, .int 101, .int 99, .int 114, .int 101, .int 116, .int 95, .int 98, .int 97, .int 115, .int 105, .int 99], vm := .none },
  { cls := 16, slots := #[.int 99, .int 108, .int 105, .int 101, .int 110, .int 116, .int 95, .int 115, .int 101, .int 99, .int 114, .int 101, .int 116, .int 95, .int 112, .int 111, .int 115, .int 116], vm := .none }]
def classes : Array Class := #[k0, k1, k2, k3, k4, k5, k6, k7, k8, k9, k10, k11, k12, k13, k14, k15, k16, k17, k18, k19, k20, k21]
def interned : List (Array UInt16 × Addr) := []
def slotsUsed : Nat := 69
def theMethod : MethodId := ⟨1, 6⟩
def args0 : Array Value := #[.int 5, .int 3, .int 7, .int 1]
def aboutOver (below : List Frame) : State where
  vm := { classes := classes, interned := interned.toArray }
  heap := heap
  slotsUsed := slotsUsed
  threads := #[{ frames := .invoking theMethod args0 :: below }]
def below0 : List Frame := [.native { method := ⟨0, 0⟩, args := #[] }]
def about1 : State := aboutOver below0
def p0 : Program := .bare "" "" ""
def e0 : Env := launch0.env 0 0 0
theorem w_frames : about1.frames = Frame.invoking theMethod args0 :: below0 := rfl
set_option maxRecDepth 65536 in
theorem w_args : argsFit about1.vm theMethod args0 = true := by decide +kernel
set_option maxRecDepth 65536 in
theorem w_heap : heapFits about1 = true := by decide +kernel
set_option maxRecDepth 65536 in
theorem w_runnable : about1.curStatus? = some .runnable := by decide +kernel
set_option maxRecDepth 65536 in
theorem w_alone : about1.alone = true := by decide +kernel
set_option maxRecDepth 65536 in
theorem w_named : about1.methodNamed? x = some theMethod := by decide +kernel
set_option maxRecDepth 65536 in
theorem w_hears : about1.hears theMethod below0 = true := by decide +kernel
set_option maxRecDepth 65536 in
theorem w_ripe : about1.ripe theMethod args0 below0 = true := by decide +kernel
theorem w_running : about1.status = .running := rfl
set_option maxRecDepth 65536 in
theorem w_room : about1.hasRoom e0.platform room_1 = true :=
  launch0.hasRoom_least _ room_1 (by decide +kernel) (by decide +kernel) (by decide +kernel) (by decide +kernel) (by decide +kernel) (by decide +kernel)
theorem allAtoms_all (ts : List Jvm.Cond) (a : Array Jvm.Value) (st : Jvm.State) : (allAtoms ts).before a st = ts.all (fun c => c.before a st) := by
  induction ts with
  | nil => rfl
  | cons c t ih =>
    show (Jvm.Cond.and c (allAtoms t)).before a st = _
    rw [Jvm.Cond.before_and, ih, List.all_cons]
def words1 : List Jvm.Cond := Jvm.Cond.code x code maxLocals ret :: tables_1
/-- a 'code' word, met by the world's own term for the bytes: nothing is compared byte by byte -/
theorem code_word {y : MethodName} {bytes : ByteArray} {mx : Nat} {rt : Option FieldType} {a : Array Value} {s : State} {m : MethodId} {meth : Method} {c : Code} (h1 : s.methodNamed? y = some m) (h2 : s.vm.method? m = some meth) (h3 : meth.code = some c) (h4 : c.code = bytes)
    (h5 : (c.maxLocals == mx && c.exceptionTable.isEmpty && decide (c.maxStack ≤ mostOperands) && decide (meth.sig.returnType = rt) && !meth.locks && decide (parseMethodDescriptor y.desc = some meth.sig)) = true) : (Jvm.Cond.code y bytes mx rt).before a s = true := by
  simp only [Bool.and_eq_true, beq_iff_eq, Bool.not_eq_true', decide_eq_true_eq] at h5
  obtain ⟨⟨⟨⟨⟨g1, g2⟩, g3⟩, g4⟩, g5⟩, g6⟩ := h5
  simp [Cond.before, Cond.holds, Cond.value, h1, h2, h3, h4, g1, g2, g3, g4, g5, g6]
def isCode : Jvm.Cond → Bool
  | .code _ _ _ _ => true
  | _ => false
theorem all_split {L : List Jvm.Cond} {P : Jvm.Cond → Bool} (h1 : L.all (fun c => isCode c || P c) = true) (h2 : ∀ c ∈ L.filter isCode, P c = true) : L.all P = true := by
  refine List.all_eq_true.mpr fun c hc => ?_
  have h := List.all_eq_true.mp h1 c hc
  rcases Bool.eq_false_or_eq_true (isCode c) with hi | hi
  · exact h2 c (List.mem_filter.mpr ⟨hc, hi⟩)
  · simpa [hi] using h
set_option maxRecDepth 65536 in
theorem w_c0 : (Jvm.Cond.code x code maxLocals ret).before args0 about1 = true := code_word (m := ⟨1, 6⟩) (meth := k1m6) (c := k1c6) (by decide +kernel) rfl rfl rfl (by decide +kernel)
set_option maxRecDepth 65536 in
theorem w_c1 : (Jvm.Cond.code ({ cls := "com/example/grant/grant/providers/ClientAuthenticationNamedPinLaw", name := "postName", desc := "()[C" } : Jvm.MethodName) method_3_code (0 : Nat) (Option.some (Jvm.ClassFile.FieldType.array Jvm.ClassFile.FieldType.char))).before args0 about1 = true := code_word (m := ⟨1, 2⟩) (meth := k1m2) (c := k1c2) (by decide +kernel) rfl rfl rfl (by decide +kernel)
set_option maxRecDepth 65536 in
theorem w_c2 : (Jvm.Cond.code ({ cls := "java/lang/String", name := "<init>", desc := "([C)V" } : Jvm.MethodName) jdk_42_method_3_code (2 : Nat) (Option.none : Option Jvm.ClassFile.FieldType)).before args0 about1 = true := code_word (m := ⟨7, 1⟩) (meth := k7m1) (c := k7c1) (by decide +kernel) rfl rfl rfl (by decide +kernel)
set_option maxRecDepth 65536 in
theorem w_c3 : (Jvm.Cond.code ({ cls := "java/lang/String", name := "<init>", desc := "([CIILjava/lang/Void;)V" } : Jvm.MethodName) jdk_42_method_149_code (6 : Nat) (Option.none : Option Jvm.ClassFile.FieldType)).before args0 about1 = true := code_word (m := ⟨7, 3⟩) (meth := k7m3) (c := k7c3) (by decide +kernel) rfl rfl rfl (by decide +kernel)
set_option maxRecDepth 65536 in
theorem w_c4 : (Jvm.Cond.code ({ cls := "java/lang/Object", name := "<init>", desc := "()V" } : Jvm.MethodName) object_method_1_code (1 : Nat) (Option.none : Option Jvm.ClassFile.FieldType)).before args0 about1 = true := code_word (m := ⟨0, 0⟩) (meth := k0m0) (c := k0c0) (by decide +kernel) rfl rfl rfl (by decide +kernel)
set_option maxRecDepth 65536 in
theorem w_c5 : (Jvm.Cond.code ({ cls := "java/lang/StringUTF16", name := "compress", desc := "([CII)[B" } : Jvm.MethodName) jdk_52_method_16_code (6 : Nat) (Option.some (Jvm.ClassFile.FieldType.array Jvm.ClassFile.FieldType.byte))).before args0 about1 = true := code_word (m := ⟨8, 2⟩) (meth := k8m2) (c := k8c2) (by decide +kernel) rfl rfl rfl (by decide +kernel)
set_option maxRecDepth 65536 in
theorem w_c6 : (Jvm.Cond.code ({ cls := "java/lang/StringUTF16", name := "compress", desc := "([CI[BII)I" } : Jvm.MethodName) jdk_52_method_21_code (7 : Nat) (Option.some Jvm.ClassFile.FieldType.int)).before args0 about1 = true := code_word (m := ⟨8, 3⟩) (meth := k8m3) (c := k8c3) (by decide +kernel) rfl rfl rfl (by decide +kernel)
set_option maxRecDepth 65536 in
theorem w_c7 : (Jvm.Cond.code ({ cls := "java/lang/StringUTF16", name := "coderFromArrayLen", desc := "([BI)B" } : Jvm.MethodName) jdk_52_method_15_code (2 : Nat) (Option.some Jvm.ClassFile.FieldType.byte)).before args0 about1 = true := code_word (m := ⟨8, 1⟩) (meth := k8m1) (c := k8c1) (by decide +kernel) rfl rfl rfl (by decide +kernel)
set_option maxRecDepth 65536 in
theorem w_c8 : (Jvm.Cond.code ({ cls := "java/lang/String", name := "equals", desc := "(Ljava/lang/Object;)Z" } : Jvm.MethodName) jdk_42_method_66_code (3 : Nat) (Option.some Jvm.ClassFile.FieldType.boolean)).before args0 about1 = true := code_word (m := ⟨7, 2⟩) (meth := k7m2) (c := k7c2) (by decide +kernel) rfl rfl rfl (by decide +kernel)
set_option maxRecDepth 65536 in
theorem w_c9 : (Jvm.Cond.code ({ cls := "java/lang/StringLatin1", name := "equals", desc := "([B[B)Z" } : Jvm.MethodName) jdk_43_method_13_code (3 : Nat) (Option.some Jvm.ClassFile.FieldType.boolean)).before args0 about1 = true := code_word (m := ⟨9, 1⟩) (meth := k9m1) (c := k9c1) (by decide +kernel) rfl rfl rfl (by decide +kernel)
set_option maxRecDepth 65536 in
theorem w_c10 : (Jvm.Cond.code ({ cls := "com/example/grant/grant/providers/ClientAuthentication", name := "named", desc := "(Ljava/lang/String;)Lcom/example/grant/grant/providers/ClientAuthentication;" } : Jvm.MethodName) prog_12_method_5_code (5 : Nat) (Option.some (Jvm.ClassFile.FieldType.object "com/example/grant/grant/providers/ClientAuthentication"))).before args0 about1 = true := code_word (m := ⟨11, 1⟩) (meth := k11m1) (c := k11c1) (by decide +kernel) rfl rfl rfl (by decide +kernel)
set_option maxRecDepth 65536 in
theorem w_c11 : (Jvm.Cond.code ({ cls := "com/example/grant/grant/providers/ClientAuthentication", name := "values", desc := "()[Lcom/example/grant/grant/providers/ClientAuthentication;" } : Jvm.MethodName) prog_12_method_1_code (0 : Nat) (Option.some (Jvm.ClassFile.FieldType.array (Jvm.ClassFile.FieldType.object "com/example/grant/grant/providers/ClientAuthentication")))).before args0 about1 = true := code_word (m := ⟨11, 0⟩) (meth := k11m0) (c := k11c0) (by decide +kernel) rfl rfl rfl (by decide +kernel)
set_option maxRecDepth 65536 in
theorem w_c12 : (Jvm.Cond.code ({ cls := "com/example/grant/grant/providers/ClientAuthenticationNamedPinLaw", name := "basicName", desc := "()[C" } : Jvm.MethodName) method_2_code (0 : Nat) (Option.some (Jvm.ClassFile.FieldType.array Jvm.ClassFile.FieldType.char))).before args0 about1 = true := code_word (m := ⟨1, 1⟩) (meth := k1m1) (c := k1c1) (by decide +kernel) rfl rfl rfl (by decide +kernel)
set_option maxRecDepth 65536 in
theorem w_c13 : (Jvm.Cond.code ({ cls := "com/example/grant/grant/providers/ClientAuthenticationNamedPinLaw", name := "shortText", desc := "(ICCC)[C" } : Jvm.MethodName) method_6_code (4 : Nat) (Option.some (Jvm.ClassFile.FieldType.array Jvm.ClassFile.FieldType.char))).before args0 about1 = true := code_word (m := ⟨1, 5⟩) (meth := k1m5) (c := k1c5) (by decide +kernel) rfl rfl rfl (by decide +kernel)
set_option maxRecDepth 65536 in
theorem w_c14 : (Jvm.Cond.code ({ cls := "com/example/grant/grant/providers/ClientAuthenticationNamedPinLaw", name := "basicPlus", desc := "(C)[C" } : Jvm.MethodName) method_4_code (1 : Nat) (Option.some (Jvm.ClassFile.FieldType.array Jvm.ClassFile.FieldType.char))).before args0 about1 = true := code_word (m := ⟨1, 3⟩) (meth := k1m3) (c := k1c3) (by decide +kernel) rfl rfl rfl (by decide +kernel)
set_option maxRecDepth 65536 in
theorem w_c15 : (Jvm.Cond.code ({ cls := "com/example/grant/grant/providers/ClientAuthenticationNamedPinLaw", name := "postPlus", desc := "(C)[C" } : Jvm.MethodName) method_5_code (1 : Nat) (Option.some (Jvm.ClassFile.FieldType.array Jvm.ClassFile.FieldType.char))).before args0 about1 = true := code_word (m := ⟨1, 4⟩) (meth := k1m4) (c := k1c4) (by decide +kernel) rfl rfl rfl (by decide +kernel)
def codes1 : List Jvm.Cond := [Jvm.Cond.code x code maxLocals ret, Jvm.Cond.code ({ cls := "com/example/grant/grant/providers/ClientAuthenticationNamedPinLaw", name := "postName", desc := "()[C" } : Jvm.MethodName) method_3_code (0 : Nat) (Option.some (Jvm.ClassFile.FieldType.array Jvm.ClassFile.FieldType.char)), Jvm.Cond.code ({ cls := "java/lang/String", name := "<init>", desc := "([C)V" } : Jvm.MethodName) jdk_42_method_3_code (2 : Nat) (Option.none : Option Jvm.ClassFile.FieldType), Jvm.Cond.code ({ cls := "java/lang/String", name := "<init>", desc := "([CIILjava/lang/Void;)V" } : Jvm.MethodName) jdk_42_method_149_code (6 : Nat) (Option.none : Option Jvm.ClassFile.FieldType), Jvm.Cond.code ({ cls := "java/lang/Object", name := "<init>", desc := "()V" } : Jvm.MethodName) object_method_1_code (1 : Nat) (Option.none : Option Jvm.ClassFile.FieldType), Jvm.Cond.code ({ cls := "java/lang/StringUTF16", name := "compress", desc := "([CII)[B" } : Jvm.MethodName) jdk_52_method_16_code (6 : Nat) (Option.some (Jvm.ClassFile.FieldType.array Jvm.ClassFile.FieldType.byte)), Jvm.Cond.code ({ cls := "java/lang/StringUTF16", name := "compress", desc := "([CI[BII)I" } : Jvm.MethodName) jdk_52_method_21_code (7 : Nat) (Option.some Jvm.ClassFile.FieldType.int), Jvm.Cond.code ({ cls := "java/lang/StringUTF16", name := "coderFromArrayLen", desc := "([BI)B" } : Jvm.MethodName) jdk_52_method_15_code (2 : Nat) (Option.some Jvm.ClassFile.FieldType.byte), Jvm.Cond.code ({ cls := "java/lang/String", name := "equals", desc := "(Ljava/lang/Object;)Z" } : Jvm.MethodName) jdk_42_method_66_code (3 : Nat) (Option.some Jvm.ClassFile.FieldType.boolean), Jvm.Cond.code ({ cls := "java/lang/StringLatin1", name := "equals", desc := "([B[B)Z" } : Jvm.MethodName) jdk_43_method_13_code (3 : Nat) (Option.some Jvm.ClassFile.FieldType.boolean), Jvm.Cond.code ({ cls := "com/example/grant/grant/providers/ClientAuthentication", name := "named", desc := "(Ljava/lang/String;)Lcom/example/grant/grant/providers/ClientAuthentication;" } : Jvm.MethodName) prog_12_method_5_code (5 : Nat) (Option.some (Jvm.ClassFile.FieldType.object "com/example/grant/grant/providers/ClientAuthentication")), Jvm.Cond.code ({ cls := "com/example/grant/grant/providers/ClientAuthentication", name := "values", desc := "()[Lcom/example/grant/grant/providers/ClientAuthentication;" } : Jvm.MethodName) prog_12_method_1_code (0 : Nat) (Option.some (Jvm.ClassFile.FieldType.array (Jvm.ClassFile.FieldType.object "com/example/grant/grant/providers/ClientAuthentication"))), Jvm.Cond.code ({ cls := "com/example/grant/grant/providers/ClientAuthenticationNamedPinLaw", name := "basicName", desc := "()[C" } : Jvm.MethodName) method_2_code (0 : Nat) (Option.some (Jvm.ClassFile.FieldType.array Jvm.ClassFile.FieldType.char)), Jvm.Cond.code ({ cls := "com/example/grant/grant/providers/ClientAuthenticationNamedPinLaw", name := "shortText", desc := "(ICCC)[C" } : Jvm.MethodName) method_6_code (4 : Nat) (Option.some (Jvm.ClassFile.FieldType.array Jvm.ClassFile.FieldType.char)), Jvm.Cond.code ({ cls := "com/example/grant/grant/providers/ClientAuthenticationNamedPinLaw", name := "basicPlus", desc := "(C)[C" } : Jvm.MethodName) method_4_code (1 : Nat) (Option.some (Jvm.ClassFile.FieldType.array Jvm.ClassFile.FieldType.char)), Jvm.Cond.code ({ cls := "com/example/grant/grant/providers/ClientAuthenticationNamedPinLaw", name := "postPlus", desc := "(C)[C" } : Jvm.MethodName) method_5_code (1 : Nat) (Option.some (Jvm.ClassFile.FieldType.array Jvm.ClassFile.FieldType.char))]
set_option maxRecDepth 65536 in
theorem codes_eq : words1.filter isCode = codes1 := rfl
theorem w_codes : ∀ c ∈ words1.filter isCode, c.before args0 about1 = true := by
  rw [codes_eq]
  intro c hc
  simp only [codes1, List.mem_cons, List.not_mem_nil, or_false] at hc
  rcases hc with rfl | rfl | rfl | rfl | rfl | rfl | rfl | rfl | rfl | rfl | rfl | rfl | rfl | rfl | rfl | rfl
  · exact w_c0
  · exact w_c1
  · exact w_c2
  · exact w_c3
  · exact w_c4
  · exact w_c5
  · exact w_c6
  · exact w_c7
  · exact w_c8
  · exact w_c9
  · exact w_c10
  · exact w_c11
  · exact w_c12
  · exact w_c13
  · exact w_c14
  · exact w_c15
set_option maxRecDepth 65536 in
theorem w_t1 : (words1.take 24).all (fun c => isCode c || c.before args0 about1) = true := by decide +kernel
set_option maxRecDepth 65536 in
theorem w_t2 : ((words1.drop 24).take 24).all (fun c => isCode c || c.before args0 about1) = true := by decide +kernel
set_option maxRecDepth 65536 in
theorem w_t3 : (((words1.drop 24).drop 24).take 24).all (fun c => isCode c || c.before args0 about1) = true := by decide +kernel
set_option maxRecDepth 65536 in
theorem w_t4 : (((words1.drop 24).drop 24).drop 24).all (fun c => isCode c || c.before args0 about1) = true := by decide +kernel
theorem w_tables : (allAtoms (Jvm.Cond.code x code maxLocals ret :: tables_1)).before args0 about1 = true := by
  rw [allAtoms_all]
  show words1.all (fun c => c.before args0 about1) = true
  refine all_split ?_ w_codes
  rw [← List.take_append_drop 24 words1, List.all_append, w_t1, ← List.take_append_drop 24 (words1.drop 24), List.all_append, w_t2, ← List.take_append_drop 24 ((words1.drop 24).drop 24), List.all_append, w_t3, w_t4]
  rfl
set_option maxRecDepth 65536 in
theorem w_rest : rest_1_c.before args0 about1 = true := by decide +kernel
set_option maxRecDepth 65536 in
theorem w_case : (Jvm.Cond.and given_1 narrow_1).before args0 about1 = true := by decide +kernel
set_option maxRecDepth 65536 in
theorem w_consts : constsHeld consts_1 about1 := Jvm.Lit.constsHeldB_iff.mp (by decide +kernel)
theorem w_applies : (headSpec (Jvm.Cond.code x code maxLocals ret :: tables_1) room_1).applies x e0.platform about1 = true :=
  (Spec.applies_iff w_frames).mpr ⟨w_running, w_runnable, w_alone, w_named, w_hears, w_ripe, w_room, w_tables⟩
theorem atStart : AtStart classFile x code maxLocals ret World_1 tables_1 room_1 Calls_1 rest_1 Pre_1 launch0 p0 e0 about1 theMethod args0 below0 :=
  ⟨lists_1, trivial, launch0.admits_env _ _ _, launch0.least_env, fairChoices_fair.cas, fairChoices_fair.clock, w_frames, w_args, w_heap, w_applies, ⟨w_consts, trivial⟩, w_rest, w_case⟩
end start1
theorem witness_1 : WitnessClaimed_1 := ⟨start1.p0, start1.e0, start1.about1, start1.theMethod, start1.args0, start1.below0, start1.atStart⟩
end Jvm.Pilot.@@N@@
