import JvmDerived
import JvmDerived.Pilot.@@N@@Statement
import JvmDerived.Pilot.@@N@@Code
set_option linter.unusedVariables false
set_option linter.unusedSimpArgs false
@@BLOCK:TracedD.lean.txt@@
namespace Jvm.Own
open Jvm Jvm.ClassFile Sem Op Lib Jvm.Free Jvm.Stand Jvm.LawKit Jvm.RoadKit Bundle
/-! The walk's own layer: 'On' bears all that a walk knows of where it stands, 'Go' is what is left to show; one law an instruction, in the shape 'Go behind it gives Go ahead of it'. -/
abbrev Cx : Type := Program × Launch × Env × State × MethodId × Array Value × List Frame × Method × Code
abbrev Cx.p (C : Cx) : Program := C.1
abbrev Cx.l (C : Cx) : Launch := C.2.1
abbrev Cx.e (C : Cx) : Env := C.2.2.1
abbrev Cx.s (C : Cx) : State := C.2.2.2.1
abbrev Cx.m (C : Cx) : MethodId := C.2.2.2.2.1
abbrev Cx.args (C : Cx) : Array Value := C.2.2.2.2.2.1
abbrev Cx.below (C : Cx) : List Frame := C.2.2.2.2.2.2.1
abbrev Cx.meth (C : Cx) : Method := C.2.2.2.2.2.2.2.1
abbrev Cx.c (C : Cx) : Code := C.2.2.2.2.2.2.2.2
/-- an instruction of the body b -/
def Ins (b : ByteArray) (pc : Nat) (i : Instr) (len pc' : Nat) : Prop := decode b pc = .ok (i, len) ∧ pc + len = pc'
/-- where a branch goes -/
def Jmp (pc : Nat) (o : Int) (pc' : Nat) : Prop := 0 ≤ (pc : Int) + o ∧ ((pc : Int) + o).toNat = pc'
/-- the frame of an end -/
def EndQ (q : Bool) (s : State) (o : Outcome) (t : State) (L : List Loc) (k n : Nat) : Prop := ReturnedEndW s o t L k n ∧ (q = true → FrameEnd s o t L k n)
def On (C : Cx) (R : Room) (own : String) (b : ByteArray) (ml : Nat) (rt : Option FieldType) (nm : String) (q : Bool) (Z : State) (a0 : Array Value) (EL : List (String × Nat)) (n0 : Nat) (vm : Vm) (T : State) (h : Heap) (k n : Nat) : Prop :=
  (∃ (k0 : Nat) (locs : List Loc), Stand C.p C.l C.e R (C.s.setVm vm) C.m C.args C.below C.meth C.c T locs k n ∧ Fr n0 locs ∧ C.s.Since vm k0 ∧ k0 ≤ h.size) ∧ T.heap = h ∧ C.p.tables.exec = Jvm.exec ∧ C.c.code = b ∧ C.c.maxLocals = ml ∧ C.meth.sig.returnType = rt ∧ C.meth.name = nm ∧ C.meth.locks = false ∧
    Z.Warmed39 vm ∧ vm.findClass own = some C.m.cls ∧ EW Z a0 EL ∧ CHr Z EL C.s.vm C.s.heap vm h ∧ (q = true → C.s.WarmedH vm) ∧ Old Z n0 h
def Go (C : Cx) (R : Room) (q : Bool) (Z : State) (EL : List (String × Nat)) (n0 : Nat) (Q : Option Value → Heap → (Addr → Prop) → Prop) (T : State) (pc : Nat) (Ls : Array Slot) (st : List Value) : Prop :=
  ∃ s₂ o, Steps C.p.tables C.e C.below (T.setTop (mkF C.m pc Ls st)) s₂ ∧ s₂.status = .running ∧ Ended s₂ C.below o ∧ ∃ v L, o = .returned v ∧ (Q v s₂.heap (Safe Z EL s₂.vm s₂.heap) ∧ Fr n0 L ∧ Old Z n0 s₂.heap) ∧ CHr Z EL C.s.vm C.s.heap s₂.vm s₂.heap ∧ EndQ q C.s o s₂ L R.cells R.slots
section Laws
variable {C : Cx} {R : Room} {own : String} {b : ByteArray} {ml : Nat} {rt : Option FieldType} {nm : String} {q : Bool} {Z : State} {a0 : Array Value} {EL : List (String × Nat)} {n0 : Nat} {vm : Vm} {T : State} {h : Heap} {k n : Nat} {Q : Option Value → Heap → (Addr → Prop) → Prop} {pc pc' pt : Nat} {Ls Ls' : Array Slot} {st : List Value}
theorem Go.of {T' : State} {Ls' : Array Slot} {st' : List Value} (f : ∀ t, Steps C.p.tables C.e C.below (T'.setTop (mkF C.m pc' Ls' st')) t → Steps C.p.tables C.e C.below (T.setTop (mkF C.m pc Ls st)) t) (g : Go C R q Z EL n0 Q T' pc' Ls' st') : Go C R q Z EL n0 Q T pc Ls st := by
  obtain ⟨s2, o, hs, r⟩ := g
  exact ⟨s2, o, f _ hs, r⟩
theorem On.here (X : On C R own b ml rt nm q Z a0 EL n0 vm T h k n) : At T C.m C.c C.below := by
  obtain ⟨⟨_, _, S, -⟩, -⟩ := X; exact S.here
theorem On.exec (X : On C R own b ml rt nm q Z a0 EL n0 vm T h k n) : C.p.tables.exec = Jvm.exec := X.2.2.1
theorem On.dec (X : On C R own b ml rt nm q Z a0 EL n0 vm T h k n) {i : Instr} {len : Nat} (hi : Ins b pc i len pc') : decode C.c.code pc = .ok (i, len) := by rw [X.2.2.2.1]; exact hi.1
theorem On.zw (X : On C R own b ml rt nm q Z a0 EL n0 vm T h k n) : Z.Warmed39 vm := X.2.2.2.2.2.2.2.2.1
theorem On.owned (X : On C R own b ml rt nm q Z a0 EL n0 vm T h k n) : vm.findClass own = some C.m.cls := X.2.2.2.2.2.2.2.2.2.1
theorem On.ew (X : On C R own b ml rt nm q Z a0 EL n0 vm T h k n) : EW Z a0 EL := X.2.2.2.2.2.2.2.2.2.2.1
theorem On.chr (X : On C R own b ml rt nm q Z a0 EL n0 vm T h k n) : CHr Z EL C.s.vm C.s.heap vm h := X.2.2.2.2.2.2.2.2.2.2.2.1
theorem On.chv (X : On C R own b ml rt nm q Z a0 EL n0 vm T h k n) : CHv Z EL vm h := X.chr.1
theorem On.warm (X : On C R own b ml rt nm q Z a0 EL n0 vm T h k n) : q = true → C.s.WarmedH vm := X.2.2.2.2.2.2.2.2.2.2.2.2.1
theorem On.old (X : On C R own b ml rt nm q Z a0 EL n0 vm T h k n) : Old Z n0 h := X.2.2.2.2.2.2.2.2.2.2.2.2.2
theorem On.n0le (X : On C R own b ml rt nm q Z a0 EL n0 vm T h k n) : n0 ≤ h.size := X.old.1 ▸ X.old.2.1
theorem On.ext0 (X : On C R own b ml rt nm q Z a0 EL n0 vm T h k n) : Ext Z.heap h := X.old.2
theorem On.eT (X : On C R own b ml rt nm q Z a0 EL n0 vm T h k n) : T.heap = h := X.2.1
theorem On.put (X : On C R own b ml rt nm q Z a0 EL n0 vm T h k n) {T' : State} {h' : Heap} {k' n' k0 : Nat} {locs' : List Loc} (S' : Stand C.p C.l C.e R (C.s.setVm vm) C.m C.args C.below C.meth C.c T' locs' k' n') (N' : Fr n0 locs') (hS : C.s.Since vm k0) (hk : k0 ≤ h.size)
    (e' : T'.heap = h') (hc : CHr Z EL vm h vm h') (hO : Old Z n0 h') : On C R own b ml rt nm q Z a0 EL n0 vm T' h' k' n' := by
  obtain ⟨-, -, e2, e3, e4, e5, e6, e7, e8, e9, e10, e11, e12, e13⟩ := X
  exact ⟨⟨k0, locs', S', N', hS, Nat.le_trans hk hc.2.1⟩, e', e2, e3, e4, e5, e6, e7, e8, e9, e10, e11.trans hc, e12, hO⟩
theorem On.more (X : On C R own b ml rt nm q Z a0 EL n0 vm T h k n) {k' n' : Nat} (hk : k ≤ k') (hn : n ≤ n') : On C R own b ml rt nm q Z a0 EL n0 vm T h k' n' := by
  obtain ⟨⟨k0, locs, S, N, hS, hk0⟩, -⟩ := id X
  exact X.put (S.more hk hn) N hS hk0 X.eT (CHr.refl X.chv) X.old
/-! ### plain steps -/
theorem On.aload_n (X : On C R own b ml rt nm q Z a0 EL n0 vm T h k n) {j : Fin 4} {v : Value} (hi : Ins b pc (.aload_n j) 1 pc') (hl : Ls[j.val]? = some (.val v)) (hv : v.isRef = true) (g : Go C R q Z EL n0 Q T pc' Ls (v :: st)) : Go C R q Z EL n0 Q T pc Ls st := by
  obtain ⟨-, rfl⟩ := id hi; exact Go.of (fun t z => XS.aloadN X.here X.exec rfl (X.dec hi) hl hv z) g
theorem On.aload (X : On C R own b ml rt nm q Z a0 EL n0 vm T h k n) {j : Nat} {v : Value} (hi : Ins b pc (.aload j) 2 pc') (hl : Ls[j]? = some (.val v)) (hv : v.isRef = true) (g : Go C R q Z EL n0 Q T pc' Ls (v :: st)) : Go C R q Z EL n0 Q T pc Ls st := by
  obtain ⟨-, rfl⟩ := id hi; exact Go.of (fun t z => XS.aload X.here X.exec rfl (X.dec hi) hl hv z) g
theorem On.iload_n (X : On C R own b ml rt nm q Z a0 EL n0 vm T h k n) {j : Fin 4} {v : Int32} (hi : Ins b pc (.iload_n j) 1 pc') (hl : Ls[j.val]? = some (.val (.int v))) (g : Go C R q Z EL n0 Q T pc' Ls (.int v :: st)) : Go C R q Z EL n0 Q T pc Ls st := by
  obtain ⟨-, rfl⟩ := id hi; exact Go.of (fun t z => XS.iloadN X.here X.exec rfl (X.dec hi) hl z) g
theorem On.iload (X : On C R own b ml rt nm q Z a0 EL n0 vm T h k n) {j : Nat} {v : Int32} (hi : Ins b pc (.iload j) 2 pc') (hl : Ls[j]? = some (.val (.int v))) (g : Go C R q Z EL n0 Q T pc' Ls (.int v :: st)) : Go C R q Z EL n0 Q T pc Ls st := by
  obtain ⟨-, rfl⟩ := id hi; exact Go.of (fun t z => XS.iload X.here X.exec rfl (X.dec hi) hl z) g
theorem On.lload_n (X : On C R own b ml rt nm q Z a0 EL n0 vm T h k n) {j : Fin 4} {v : Int64} (hi : Ins b pc (.lload_n j) 1 pc') (hl : Ls[j.val]? = some (.val (.long v))) (g : Go C R q Z EL n0 Q T pc' Ls (.long v :: st)) : Go C R q Z EL n0 Q T pc Ls st := by
  obtain ⟨-, rfl⟩ := id hi; exact Go.of (fun t z => XS.lloadN X.here X.exec rfl (X.dec hi) hl z) g
theorem On.lload (X : On C R own b ml rt nm q Z a0 EL n0 vm T h k n) {j : Nat} {v : Int64} (hi : Ins b pc (.lload j) 2 pc') (hl : Ls[j]? = some (.val (.long v))) (g : Go C R q Z EL n0 Q T pc' Ls (.long v :: st)) : Go C R q Z EL n0 Q T pc Ls st := by
  obtain ⟨-, rfl⟩ := id hi; exact Go.of (fun t z => XS.lload X.here X.exec rfl (X.dec hi) hl z) g
theorem On.iconst (X : On C R own b ml rt nm q Z a0 EL n0 vm T h k n) {i : Int} {z : Int32} (hi : Ins b pc (.iconst i) 1 pc') (hz : Int32.ofInt i = z) (g : Go C R q Z EL n0 Q T pc' Ls (.int z :: st)) : Go C R q Z EL n0 Q T pc Ls st := by
  subst hz; obtain ⟨-, rfl⟩ := id hi; exact Go.of (fun t z => XS.iconst X.here X.exec rfl (X.dec hi) z) g
theorem On.bipush (X : On C R own b ml rt nm q Z a0 EL n0 vm T h k n) {i : Int} {z : Int32} (hi : Ins b pc (.bipush i) 2 pc') (hz : (Int8.ofInt i).toInt32 = z) (g : Go C R q Z EL n0 Q T pc' Ls (.int z :: st)) : Go C R q Z EL n0 Q T pc Ls st := by
  subst hz; obtain ⟨-, rfl⟩ := id hi; exact Go.of (fun t z => XS.bipush X.here X.exec rfl (X.dec hi) z) g
theorem On.sipush (X : On C R own b ml rt nm q Z a0 EL n0 vm T h k n) {i : Int} {z : Int32} (hi : Ins b pc (.sipush i) 3 pc') (hz : (Int16.ofInt i).toInt32 = z) (g : Go C R q Z EL n0 Q T pc' Ls (.int z :: st)) : Go C R q Z EL n0 Q T pc Ls st := by
  subst hz; obtain ⟨-, rfl⟩ := id hi; exact Go.of (fun t z => XS.sipush X.here X.exec rfl (X.dec hi) z) g
theorem On.lconst (X : On C R own b ml rt nm q Z a0 EL n0 vm T h k n) {i : Fin 2} {z : Int64} (hi : Ins b pc (.lconst i) 1 pc') (hz : Int64.ofNat i = z) (g : Go C R q Z EL n0 Q T pc' Ls (.long z :: st)) : Go C R q Z EL n0 Q T pc Ls st := by
  subst hz; obtain ⟨-, rfl⟩ := id hi; exact Go.of (fun t z => XS.lconst X.here X.exec rfl (X.dec hi) z) g
theorem On.aconst_null (X : On C R own b ml rt nm q Z a0 EL n0 vm T h k n) (hi : Ins b pc .aconst_null 1 pc') (g : Go C R q Z EL n0 Q T pc' Ls (.null :: st)) : Go C R q Z EL n0 Q T pc Ls st := by
  obtain ⟨-, rfl⟩ := id hi; exact Go.of (fun t z => XS.aconstNull X.here X.exec rfl (X.dec hi) z) g
theorem On.istore_n (X : On C R own b ml rt nm q Z a0 EL n0 vm T h k n) {j : Fin 4} {x : Int32} (hi : Ins b pc (.istore_n j) 1 pc') (hl : storeLocals Ls j.val (.int x) = some Ls') (g : Go C R q Z EL n0 Q T pc' Ls' st) : Go C R q Z EL n0 Q T pc Ls (.int x :: st) := by
  obtain ⟨-, rfl⟩ := id hi; exact Go.of (fun t z => XS.istoreN X.here X.exec rfl (X.dec hi) rfl hl z) g
theorem On.istore (X : On C R own b ml rt nm q Z a0 EL n0 vm T h k n) {j : Nat} {x : Int32} (hi : Ins b pc (.istore j) 2 pc') (hl : storeLocals Ls j (.int x) = some Ls') (g : Go C R q Z EL n0 Q T pc' Ls' st) : Go C R q Z EL n0 Q T pc Ls (.int x :: st) := by
  obtain ⟨-, rfl⟩ := id hi; exact Go.of (fun t z => XS.istore X.here X.exec rfl (X.dec hi) rfl hl z) g
theorem On.lstore_n (X : On C R own b ml rt nm q Z a0 EL n0 vm T h k n) {j : Fin 4} {x : Int64} (hi : Ins b pc (.lstore_n j) 1 pc') (hl : storeLocals Ls j.val (.long x) = some Ls') (g : Go C R q Z EL n0 Q T pc' Ls' st) : Go C R q Z EL n0 Q T pc Ls (.long x :: st) := by
  obtain ⟨-, rfl⟩ := id hi; exact Go.of (fun t z => XS.lstoreN X.here X.exec rfl (X.dec hi) rfl hl z) g
theorem On.astore_n (X : On C R own b ml rt nm q Z a0 EL n0 vm T h k n) {j : Fin 4} {x : Value} (hi : Ins b pc (.astore_n j) 1 pc') (hv : x.isRef = true) (hl : storeLocals Ls j.val x = some Ls') (g : Go C R q Z EL n0 Q T pc' Ls' st) : Go C R q Z EL n0 Q T pc Ls (x :: st) := by
  obtain ⟨-, rfl⟩ := id hi; exact Go.of (fun t z => XS.astoreN X.here X.exec rfl (X.dec hi) rfl hv hl z) g
theorem On.astore (X : On C R own b ml rt nm q Z a0 EL n0 vm T h k n) {j : Nat} {x : Value} (hi : Ins b pc (.astore j) 2 pc') (hv : x.isRef = true) (hl : storeLocals Ls j x = some Ls') (g : Go C R q Z EL n0 Q T pc' Ls' st) : Go C R q Z EL n0 Q T pc Ls (x :: st) := by
  obtain ⟨-, rfl⟩ := id hi; exact Go.of (fun t z => XS.astore X.here X.exec rfl (X.dec hi) rfl hv hl z) g
theorem On.iinc (X : On C R own b ml rt nm q Z a0 EL n0 vm T h k n) {j : Nat} {cst : Int} {x y : Int32} (hi : Ins b pc (.iinc j cst) 3 pc') (hl : Ls[j]? = some (.val (.int x))) (hz : x + Int32.ofInt cst = y) (hl' : storeLocals Ls j (.int y) = some Ls') (g : Go C R q Z EL n0 Q T pc' Ls' st) : Go C R q Z EL n0 Q T pc Ls st := by
  subst hz; obtain ⟨-, rfl⟩ := id hi; exact Go.of (fun t z => XS.iinc X.here X.exec rfl (X.dec hi) hl hl' z) g
theorem On.dup (X : On C R own b ml rt nm q Z a0 EL n0 vm T h k n) {x : Value} (hi : Ins b pc .dup 1 pc') (hc : x.category = 1) (g : Go C R q Z EL n0 Q T pc' Ls (x :: x :: st)) : Go C R q Z EL n0 Q T pc Ls (x :: st) := by
  obtain ⟨-, rfl⟩ := id hi; exact Go.of (fun t z => XS.dup X.here X.exec rfl (X.dec hi) rfl hc z) g
theorem On.dup_x1 (X : On C R own b ml rt nm q Z a0 EL n0 vm T h k n) {x y : Value} (hi : Ins b pc .dup_x1 1 pc') (hc : x.category = 1) (hc' : y.category = 1) (g : Go C R q Z EL n0 Q T pc' Ls (x :: y :: x :: st)) : Go C R q Z EL n0 Q T pc Ls (x :: y :: st) := by
  obtain ⟨-, rfl⟩ := id hi; exact Go.of (fun t z => XS.dupX1 X.here X.exec rfl (X.dec hi) rfl hc hc' z) g
theorem On.dup2 (X : On C R own b ml rt nm q Z a0 EL n0 vm T h k n) {x y : Value} (hi : Ins b pc .dup2 1 pc') (hc : x.category = 1) (hc' : y.category = 1) (g : Go C R q Z EL n0 Q T pc' Ls (x :: y :: x :: y :: st)) : Go C R q Z EL n0 Q T pc Ls (x :: y :: st) := by
  obtain ⟨-, rfl⟩ := id hi; exact Go.of (fun t z => XT.dup2 X.here X.exec rfl (X.dec hi) rfl hc hc' z) g
theorem On.pop (X : On C R own b ml rt nm q Z a0 EL n0 vm T h k n) {x : Value} (hi : Ins b pc .pop 1 pc') (hc : x.category = 1) (g : Go C R q Z EL n0 Q T pc' Ls st) : Go C R q Z EL n0 Q T pc Ls (x :: st) := by
  obtain ⟨-, rfl⟩ := id hi; exact Go.of (fun t z => XS.pop X.here X.exec rfl (X.dec hi) rfl hc z) g
theorem On.iadd (X : On C R own b ml rt nm q Z a0 EL n0 vm T h k n) {x y z : Int32} (hi : Ins b pc .iadd 1 pc') (hz : x + y = z) (g : Go C R q Z EL n0 Q T pc' Ls (.int z :: st)) : Go C R q Z EL n0 Q T pc Ls (.int y :: .int x :: st) := by
  subst hz; obtain ⟨-, rfl⟩ := id hi; exact Go.of (fun t z => XS.iadd X.here X.exec rfl (X.dec hi) rfl z) g
theorem On.isub (X : On C R own b ml rt nm q Z a0 EL n0 vm T h k n) {x y z : Int32} (hi : Ins b pc .isub 1 pc') (hz : x - y = z) (g : Go C R q Z EL n0 Q T pc' Ls (.int z :: st)) : Go C R q Z EL n0 Q T pc Ls (.int y :: .int x :: st) := by
  subst hz; obtain ⟨-, rfl⟩ := id hi; exact Go.of (fun t z => XS.isub X.here X.exec rfl (X.dec hi) rfl z) g
theorem On.imul (X : On C R own b ml rt nm q Z a0 EL n0 vm T h k n) {x y z : Int32} (hi : Ins b pc .imul 1 pc') (hz : x * y = z) (g : Go C R q Z EL n0 Q T pc' Ls (.int z :: st)) : Go C R q Z EL n0 Q T pc Ls (.int y :: .int x :: st) := by
  subst hz; obtain ⟨-, rfl⟩ := id hi; exact Go.of (fun t z => XS.imul X.here X.exec rfl (X.dec hi) rfl z) g
theorem On.iand (X : On C R own b ml rt nm q Z a0 EL n0 vm T h k n) {x y z : Int32} (hi : Ins b pc .iand 1 pc') (hz : x &&& y = z) (g : Go C R q Z EL n0 Q T pc' Ls (.int z :: st)) : Go C R q Z EL n0 Q T pc Ls (.int y :: .int x :: st) := by
  subst hz; obtain ⟨-, rfl⟩ := id hi; exact Go.of (fun t z => XS.iand X.here X.exec rfl (X.dec hi) rfl z) g
theorem On.ior (X : On C R own b ml rt nm q Z a0 EL n0 vm T h k n) {x y z : Int32} (hi : Ins b pc .ior 1 pc') (hz : x ||| y = z) (g : Go C R q Z EL n0 Q T pc' Ls (.int z :: st)) : Go C R q Z EL n0 Q T pc Ls (.int y :: .int x :: st) := by
  subst hz; obtain ⟨-, rfl⟩ := id hi; exact Go.of (fun t z => XS.ior X.here X.exec rfl (X.dec hi) rfl z) g
theorem On.ixor (X : On C R own b ml rt nm q Z a0 EL n0 vm T h k n) {x y z : Int32} (hi : Ins b pc .ixor 1 pc') (hz : x ^^^ y = z) (g : Go C R q Z EL n0 Q T pc' Ls (.int z :: st)) : Go C R q Z EL n0 Q T pc Ls (.int y :: .int x :: st) := by
  subst hz; obtain ⟨-, rfl⟩ := id hi; exact Go.of (fun t z => XS.ixor X.here X.exec rfl (X.dec hi) rfl z) g
theorem On.ishl (X : On C R own b ml rt nm q Z a0 EL n0 vm T h k n) {x y z : Int32} (hi : Ins b pc .ishl 1 pc') (hz : x <<< (y &&& 31) = z) (g : Go C R q Z EL n0 Q T pc' Ls (.int z :: st)) : Go C R q Z EL n0 Q T pc Ls (.int y :: .int x :: st) := by
  subst hz; obtain ⟨-, rfl⟩ := id hi; exact Go.of (fun t z => XS.ishl X.here X.exec rfl (X.dec hi) rfl z) g
theorem On.ishr (X : On C R own b ml rt nm q Z a0 EL n0 vm T h k n) {x y z : Int32} (hi : Ins b pc .ishr 1 pc') (hz : x >>> (y &&& 31) = z) (g : Go C R q Z EL n0 Q T pc' Ls (.int z :: st)) : Go C R q Z EL n0 Q T pc Ls (.int y :: .int x :: st) := by
  subst hz; obtain ⟨-, rfl⟩ := id hi; exact Go.of (fun t z => XS.ishr X.here X.exec rfl (X.dec hi) rfl z) g
theorem On.iushr (X : On C R own b ml rt nm q Z a0 EL n0 vm T h k n) {x y z : Int32} (hi : Ins b pc .iushr 1 pc') (hz : (x.toUInt32 >>> (y &&& 31).toUInt32).toInt32 = z) (g : Go C R q Z EL n0 Q T pc' Ls (.int z :: st)) : Go C R q Z EL n0 Q T pc Ls (.int y :: .int x :: st) := by
  subst hz; obtain ⟨-, rfl⟩ := id hi; exact Go.of (fun t z => XS.iushr X.here X.exec rfl (X.dec hi) rfl z) g
theorem On.irem (X : On C R own b ml rt nm q Z a0 EL n0 vm T h k n) {x y z : Int32} (hi : Ins b pc .irem 1 pc') (hy : y ≠ 0) (hz : x % y = z) (g : Go C R q Z EL n0 Q T pc' Ls (.int z :: st)) : Go C R q Z EL n0 Q T pc Ls (.int y :: .int x :: st) := by
  subst hz; obtain ⟨-, rfl⟩ := id hi
  obtain ⟨⟨k0, locs, S, -⟩, -⟩ := id X
  exact Go.of (fun t z => iremM S X.exec rfl (X.dec hi) rfl hy z) g
theorem On.idiv (X : On C R own b ml rt nm q Z a0 EL n0 vm T h k n) {x y z : Int32} (hi : Ins b pc .idiv 1 pc') (hy : y ≠ 0) (hz : x / y = z) (g : Go C R q Z EL n0 Q T pc' Ls (.int z :: st)) : Go C R q Z EL n0 Q T pc Ls (.int y :: .int x :: st) := by
  subst hz; obtain ⟨-, rfl⟩ := id hi; exact Go.of (fun t z => XS.idiv X.here X.exec rfl (X.dec hi) rfl hy z) g
theorem On.i2c (X : On C R own b ml rt nm q Z a0 EL n0 vm T h k n) {x z : Int32} (hi : Ins b pc .i2c 1 pc') (hz : x.toUInt32.toUInt16.toUInt32.toInt32 = z) (g : Go C R q Z EL n0 Q T pc' Ls (.int z :: st)) : Go C R q Z EL n0 Q T pc Ls (.int x :: st) := by
  subst hz; obtain ⟨-, rfl⟩ := id hi; exact Go.of (fun t z => XS.i2c X.here X.exec rfl (X.dec hi) rfl z) g
theorem On.i2b (X : On C R own b ml rt nm q Z a0 EL n0 vm T h k n) {x z : Int32} (hi : Ins b pc .i2b 1 pc') (hz : x.toInt8.toInt32 = z) (g : Go C R q Z EL n0 Q T pc' Ls (.int z :: st)) : Go C R q Z EL n0 Q T pc Ls (.int x :: st) := by
  subst hz; obtain ⟨-, rfl⟩ := id hi; exact Go.of (fun t z => XS.i2b X.here X.exec rfl (X.dec hi) rfl z) g
theorem On.i2l (X : On C R own b ml rt nm q Z a0 EL n0 vm T h k n) {x : Int32} {z : Int64} (hi : Ins b pc .i2l 1 pc') (hz : x.toInt64 = z) (g : Go C R q Z EL n0 Q T pc' Ls (.long z :: st)) : Go C R q Z EL n0 Q T pc Ls (.int x :: st) := by
  subst hz; obtain ⟨-, rfl⟩ := id hi; exact Go.of (fun t z => XS.i2l X.here X.exec rfl (X.dec hi) rfl z) g
theorem On.l2i (X : On C R own b ml rt nm q Z a0 EL n0 vm T h k n) {x : Int64} {z : Int32} (hi : Ins b pc .l2i 1 pc') (hz : x.toInt32 = z) (g : Go C R q Z EL n0 Q T pc' Ls (.int z :: st)) : Go C R q Z EL n0 Q T pc Ls (.long x :: st) := by
  subst hz; obtain ⟨-, rfl⟩ := id hi; exact Go.of (fun t z => XS.l2i X.here X.exec rfl (X.dec hi) rfl z) g
theorem On.ladd (X : On C R own b ml rt nm q Z a0 EL n0 vm T h k n) {x y z : Int64} (hi : Ins b pc .ladd 1 pc') (hz : x + y = z) (g : Go C R q Z EL n0 Q T pc' Ls (.long z :: st)) : Go C R q Z EL n0 Q T pc Ls (.long y :: .long x :: st) := by
  subst hz; obtain ⟨-, rfl⟩ := id hi; exact Go.of (fun t z => XS.ladd X.here X.exec rfl (X.dec hi) rfl z) g
theorem On.lcmp (X : On C R own b ml rt nm q Z a0 EL n0 vm T h k n) {x y : Int64} {z : Int32} (hi : Ins b pc .lcmp 1 pc') (hz : lcmpW x y = z) (g : Go C R q Z EL n0 Q T pc' Ls (.int z :: st)) : Go C R q Z EL n0 Q T pc Ls (.long y :: .long x :: st) := by
  subst hz; obtain ⟨-, rfl⟩ := id hi; exact Go.of (fun t z => XS.lcmp X.here X.exec rfl (X.dec hi) rfl z) g
theorem On.goto (X : On C R own b ml rt nm q Z a0 EL n0 vm T h k n) {o : Int} (hi : Ins b pc (.goto o) 3 pc') (hj : Jmp pc o pt) (g : Go C R q Z EL n0 Q T pt Ls st) : Go C R q Z EL n0 Q T pc Ls st :=
  Go.of (fun t z => XS.goto X.here X.exec rfl rfl (X.dec hi) hj.1 hj.2 z) g
theorem On.ifY (X : On C R own b ml rt nm q Z a0 EL n0 vm T h k n) {cd : ClassFile.Cond} {o : Int} {x : Int32} (hi : Ins b pc (.ifCond cd o) 3 pc') (hj : Jmp pc o pt) (hc : ifCond.holds cd x = true) (g : Go C R q Z EL n0 Q T pt Ls st) : Go C R q Z EL n0 Q T pc Ls (.int x :: st) :=
  Go.of (fun t z => XS.ifYes X.here X.exec rfl rfl (X.dec hi) rfl hc hj.1 hj.2 z) g
theorem On.ifN (X : On C R own b ml rt nm q Z a0 EL n0 vm T h k n) {cd : ClassFile.Cond} {o : Int} {x : Int32} (hi : Ins b pc (.ifCond cd o) 3 pc') (hc : ifCond.holds cd x = false) (g : Go C R q Z EL n0 Q T pc' Ls st) : Go C R q Z EL n0 Q T pc Ls (.int x :: st) := by
  obtain ⟨-, rfl⟩ := id hi; exact Go.of (fun t z => XS.ifNo X.here X.exec rfl (X.dec hi) rfl hc z) g
theorem On.icY (X : On C R own b ml rt nm q Z a0 EL n0 vm T h k n) {cd : ClassFile.Cond} {o : Int} {x y : Int32} (hi : Ins b pc (.if_icmp cd o) 3 pc') (hj : Jmp pc o pt) (hc : if_icmp.holds cd x y = true) (g : Go C R q Z EL n0 Q T pt Ls st) : Go C R q Z EL n0 Q T pc Ls (.int y :: .int x :: st) :=
  Go.of (fun t z => XS.icmpYes X.here X.exec rfl rfl (X.dec hi) rfl hc hj.1 hj.2 z) g
theorem On.icN (X : On C R own b ml rt nm q Z a0 EL n0 vm T h k n) {cd : ClassFile.Cond} {o : Int} {x y : Int32} (hi : Ins b pc (.if_icmp cd o) 3 pc') (hc : if_icmp.holds cd x y = false) (g : Go C R q Z EL n0 Q T pc' Ls st) : Go C R q Z EL n0 Q T pc Ls (.int y :: .int x :: st) := by
  obtain ⟨-, rfl⟩ := id hi; exact Go.of (fun t z => XS.icmpNo X.here X.exec rfl (X.dec hi) rfl hc z) g
theorem On.nullY (X : On C R own b ml rt nm q Z a0 EL n0 vm T h k n) {o : Int} (hi : Ins b pc (.ifnull o) 3 pc') (hj : Jmp pc o pt) (g : Go C R q Z EL n0 Q T pt Ls st) : Go C R q Z EL n0 Q T pc Ls (.null :: st) :=
  Go.of (fun t z => XS.ifnullYes X.here X.exec rfl rfl (X.dec hi) rfl hj.1 hj.2 z) g
theorem On.nullN (X : On C R own b ml rt nm q Z a0 EL n0 vm T h k n) {o : Int} {a : Addr} (hi : Ins b pc (.ifnull o) 3 pc') (g : Go C R q Z EL n0 Q T pc' Ls st) : Go C R q Z EL n0 Q T pc Ls (.ref a :: st) := by
  obtain ⟨-, rfl⟩ := id hi; exact Go.of (fun t z => XS.ifnullNo X.here X.exec rfl (X.dec hi) rfl z) g
theorem On.nonnullY (X : On C R own b ml rt nm q Z a0 EL n0 vm T h k n) {o : Int} {a : Addr} (hi : Ins b pc (.ifnonnull o) 3 pc') (hj : Jmp pc o pt) (g : Go C R q Z EL n0 Q T pt Ls st) : Go C R q Z EL n0 Q T pc Ls (.ref a :: st) :=
  Go.of (fun t z => XS.ifnonnullYes X.here X.exec rfl rfl (X.dec hi) rfl hj.1 hj.2 z) g
theorem On.nonnullN (X : On C R own b ml rt nm q Z a0 EL n0 vm T h k n) {o : Int} (hi : Ins b pc (.ifnonnull o) 3 pc') (g : Go C R q Z EL n0 Q T pc' Ls st) : Go C R q Z EL n0 Q T pc Ls (.null :: st) := by
  obtain ⟨-, rfl⟩ := id hi; exact Go.of (fun t z => XS.ifnonnullNo X.here X.exec rfl (X.dec hi) rfl z) g
theorem On.acY (X : On C R own b ml rt nm q Z a0 EL n0 vm T h k n) {cd : ACond} {o : Int} {x y : Value} (hi : Ins b pc (.if_acmp cd o) 3 pc') (hj : Jmp pc o pt) (hx' : x.isRef = true) (hy' : y.isRef = true) (hc : XT.acmp cd x y = true) (g : Go C R q Z EL n0 Q T pt Ls st) : Go C R q Z EL n0 Q T pc Ls (y :: x :: st) :=
  Go.of (fun t z => XT.acmpYes X.here X.exec rfl rfl (X.dec hi) rfl hx' hy' hc hj.1 hj.2 z) g
theorem On.acN (X : On C R own b ml rt nm q Z a0 EL n0 vm T h k n) {cd : ACond} {o : Int} {x y : Value} (hi : Ins b pc (.if_acmp cd o) 3 pc') (hx' : x.isRef = true) (hy' : y.isRef = true) (hc : XT.acmp cd x y = false) (g : Go C R q Z EL n0 Q T pc' Ls st) : Go C R q Z EL n0 Q T pc Ls (y :: x :: st) := by
  obtain ⟨-, rfl⟩ := id hi; exact Go.of (fun t z => XT.acmpNo X.here X.exec rfl (X.dec hi) rfl hx' hy' hc z) g
end Laws
end Jvm.Own
namespace Jvm.Own
open Jvm Jvm.ClassFile Sem Op Lib Jvm.Free Jvm.Stand Jvm.LawKit Jvm.RoadKit Bundle
/-! ### steps that read or write the heap or the tables -/
section Heap
variable {C : Cx} {R : Room} {own : String} {b : ByteArray} {ml : Nat} {rt : Option FieldType} {nm : String} {q : Bool} {Z : State} {a0 : Array Value} {EL : List (String × Nat)} {n0 : Nat} {vm : Vm} {T : State} {h : Heap} {k n : Nat} {Q : Option Value → Heap → (Addr → Prop) → Prop} {pc pc' pt : Nat} {Ls Ls' : Array Slot} {st : List Value}
theorem On.getfield (X : On C R own b ml rt nm q Z a0 EL n0 vm T h k n) {R0 O f d : String} {ix : Nat} {a : Addr} {v : Value} (hi : Ins b pc (.getfield ix) 3 pc') (w : (Cond.fieldLink own ix R0 f d).before a0 Z = true) (via : Via Z R0 O f d) (F : Fld Z h a O f d v)
    (g : ∀ T', On C R own b ml rt nm q Z a0 EL n0 vm T' h k n → Go C R q Z EL n0 Q T' pc' Ls (v :: st)) : Go C R q Z EL n0 Q T pc Ls (.ref a :: st) := by
  obtain ⟨-, rfl⟩ := id hi
  obtain ⟨⟨k0, locs, S, N, hS, hk⟩, -⟩ := id X
  obtain ⟨T', S', e', st'⟩ := getF S X.exec X.zw X.owned (host := "") (Or.inl w) via X.eT F (g := mkF C.m pc Ls (.ref a :: st)) rfl rfl (X.dec hi)
  exact Go.of st' (g T' (X.put S' N hS hk e' (CHr.refl X.chv) X.old))
theorem On.getstatic (X : On C R own b ml rt nm q Z a0 EL n0 vm T h k n) {R0 O f d : String} {ix : Nat} {v : Value} (hi : Ins b pc (.getstatic ix) 3 pc') (w : (Cond.fieldLink own ix R0 f d).before a0 Z = true) (via : Via Z R0 O f d) (F : Sta Z h O f d v)
    (g : ∀ T', On C R own b ml rt nm q Z a0 EL n0 vm T' h k n → Go C R q Z EL n0 Q T' pc' Ls (v :: st)) : Go C R q Z EL n0 Q T pc Ls st := by
  obtain ⟨-, rfl⟩ := id hi
  obtain ⟨⟨k0, locs, S, N, hS, hk⟩, -⟩ := id X
  obtain ⟨T', S', e', st'⟩ := getS (host := "") S X.exec X.zw X.owned w via X.eT F (g := mkF C.m pc Ls st) rfl (X.dec hi)
  exact Go.of st' (g T' (X.put S' N hS hk e' (CHr.refl X.chv) X.old))
/-- Ext behind a write to a place that is new since -/
theorem ext_wr {h1 h2 h3 : Heap} {a : Addr} {sl : Nat} {v : Value} (E : Ext h1 h2) (W : Wr h2 h3 a sl v) (ha : h1.size ≤ a) : Ext h1 h3 :=
  ⟨Nat.le_trans E.1 (Nat.le_of_eq W.size.symm), fun x c hx => by
    obtain ⟨c', e1, -, -, -, e5, -⟩ := wr_at W (E.2 x c hx)
    rw [e1, e5 fun q => absurd (Array.getElem?_eq_some_iff.mp hx).1 (Nat.not_lt.mpr (q ▸ ha))]⟩
theorem ext_keep {h1 h2 h3 : Heap} {ws : List Addr} (E : Ext h1 h2) (K : Keep h2 h3 ws) (ha : ∀ x ∈ ws, h1.size ≤ x) : Ext h1 h3 :=
  ⟨Nat.le_trans E.1 K.1, fun x c hx => K.2.1 x c (E.2 x c hx) fun hm => absurd (Array.getElem?_eq_some_iff.mp hx).1 (Nat.not_lt.mpr (ha x hm))⟩
theorem ext_refl (h1 : Heap) : Ext h1 h1 := ⟨Nat.le_refl _, fun _ _ q => q⟩
theorem ext_trans {h1 h2 h3 : Heap} (E : Ext h1 h2) (E' : Ext h2 h3) : Ext h1 h3 := ⟨Nat.le_trans E.1 E'.1, fun x c q => E'.2 x c (E.2 x c q)⟩
theorem keep_ext {h1 h2 : Heap} (E : Ext h1 h2) : Keep h1 h2 [] := (Keep.refl h1 []).ext E
theorem ext_of_keep {h1 h2 : Heap} (K : Keep h1 h2 []) : Ext h1 h2 := ⟨K.1, fun x c q => K.2.1 x c q (fun z => nomatch z)⟩
/-- the general put: the field's laid word either way -/
theorem On.putfield (X : On C R own b ml rt nm q Z a0 EL n0 vm T h k n) {R0 O f d Cl : String} {ix kk : Nat} {a : Addr} {v old : Value} {ty : FieldType} (hi : Ins b pc (.putfield ix) 3 pc') (w : (Cond.fieldLink own ix R0 f d).before a0 Z = true) (via : Via Z R0 O f d) (F : Fld Z h a O f d old) (E : Exa Z h a Cl)
    (L : (Cond.lays Cl O f d).before a0 Z = true ∨ ((Cond.laysFinal Cl O f d).before a0 Z = true ∧ own = O ∧ nm = "<init>")) (wi : (Cond.instantiable Cl kk).before a0 Z = true) (hty : parseFieldDescriptor d = some ty) (hn : narrow ty v = v) (hf : fits ty v = true) (ga : n0 ≤ a) (Sf : Safe Z EL vm h a)
    (g : ∀ T' h', On C R own b ml rt nm q Z a0 EL n0 vm T' h' k n → Wr h h' a (RoadKit.slotOf Z O f d) v → Go C R q Z EL n0 Q T' pc' Ls st) : Go C R q Z EL n0 Q T pc Ls (v :: .ref a :: st) := by
  obtain ⟨-, rfl⟩ := id hi
  obtain ⟨⟨k0, locs, S, N, hS, hk⟩, -, -, -, -, -, hnm, -⟩ := id X
  obtain ⟨T', h', S', e', W', st'⟩ := putF S X.exec X.zw X.owned (host := "") (Or.inl w) via X.eT F E (L.imp id fun z => ⟨z.1, z.2.1, hnm.trans z.2.2⟩) wi hty hn hf (g := mkF C.m pc Ls (v :: .ref a :: st)) rfl rfl (X.dec hi)
  exact Go.of st' (g T' h' (X.put S' (Fr.snoc S' N ga) hS hk e' (CHr.wr W' Sf X.chv) (X.old.wr W' ga)) W')
theorem On.new (X : On C R own b ml rt nm q Z a0 EL n0 vm T h k n) {Cl : String} {ix nf k' n' : Nat} (hi : Ins b pc (.new ix) 3 pc') (w : (Cond.classLink own ix Cl).before a0 Z = true) (wi : (Cond.instantiable Cl nf).before a0 Z = true) (wz : (Cond.initialized Cl).before a0 Z = true)
    (hk' : k + 1 = k') (hn' : n + nf = n') (hc : k' ≤ R.cells) (hl : n' ≤ R.slots)
    (g : ∀ T' h' a, On C R own b ml rt nm q Z a0 EL n0 vm T' h' k' n' → Ext h h' → h.size = a → n0 ≤ a → Exa Z h' a Cl → (∀ {O nm d : String} {ty : FieldType}, Laid Z a0 Cl O nm d → parseFieldDescriptor d = some ty → Fld Z h' a O nm d (defaultValue ty)) → Unt h' a → Safe Z EL vm h' a →
      Go C R q Z EL n0 Q T' pc' Ls (.ref a :: st)) : Go C R q Z EL n0 Q T pc Ls st := by
  subst hk' hn'
  obtain ⟨-, rfl⟩ := id hi
  obtain ⟨⟨k0, locs, S, N, hS, hk⟩, -⟩ := id X
  obtain ⟨T', h', S', e', E', A', D', U', st'⟩ := newO S X.exec X.zw X.owned w wi wz X.eT (g := mkF C.m pc Ls st) rfl (X.dec hi) hc hl
  exact Go.of st' (g T' h' h.size (X.put S' N hS hk e' (CHr.ext E' X.chv) (X.old.ext E')) E' rfl X.n0le A' D' U' ((Safe.new (Nat.le_refl _)).ext E' X.chv))
theorem On.newarray (X : On C R own b ml rt nm q Z a0 EL n0 vm T h k n) {aty : ArrayType} {ty : FieldType} {z : Int32} {cap k' n' : Nat} (hi : Ins b pc (.newarray aty) 2 pc') (hty : newarray.typeOf aty = ty) (w : (Cond.arrayClass ty).before a0 Z = true)
    (hz : ¬ z < 0) (hcap : z.toNatClampNeg ≤ cap) (hbig : cap * 8 ≤ 536870912) (hk' : k + 1 = k') (hn' : n + cap = n') (hc : k' ≤ R.cells) (hl : n' ≤ R.slots)
    (g : ∀ T' h' a kA, On C R own b ml rt nm q Z a0 EL n0 vm T' h' k' n' → Ext h h' → h.size = a → n0 ≤ a → Arv Z h' a kA ty z [] (defaultValue ty) → Safe Z EL vm h' a → Go C R q Z EL n0 Q T' pc' Ls (.ref a :: st)) : Go C R q Z EL n0 Q T pc Ls (.int z :: st) := by
  subst hk' hn' hty
  obtain ⟨-, rfl⟩ := id hi
  obtain ⟨⟨k0, locs, S, N, hS, hk⟩, -⟩ := id X
  obtain ⟨T', h', kA, S', e', E', A', st'⟩ := newP S X.exec X.zw w X.eT (g := mkF C.m pc Ls (.int z :: st)) rfl (X.dec hi) rfl hz hcap hbig hc hl
  exact Go.of st' (g T' h' h.size kA (X.put S' N hS hk e' (CHr.ext E' X.chv) (X.old.ext E')) E' rfl X.n0le (Arv.new A' hz) ((Safe.new (Nat.le_refl _)).ext E' X.chv))
theorem On.anewarray (X : On C R own b ml rt nm q Z a0 EL n0 vm T h k n) {Cl ad : String} {ix : Nat} {z : Int32} {cap k' n' : Nat} (hi : Ins b pc (.anewarray ix) 3 pc') (w1 : (Cond.classLink own ix Cl).before a0 Z = true) (w2 : (Cond.arrayOver (.object Cl)).before a0 Z = true)
    (hz : ¬ z < 0) (hcap : z.toNatClampNeg ≤ cap) (hbig : cap * 8 ≤ 536870912) (hk' : k + 1 = k') (hn' : n + cap = n') (hc : k' ≤ R.cells) (hl : n' ≤ R.slots) (had : "[" ++ (FieldType.object Cl).toString = ad)
    (g : ∀ T' h' a kA, On C R own b ml rt nm q Z a0 EL n0 vm T' h' k' n' → Ext h h' → h.size = a → n0 ≤ a → Arv Z h' a kA (.object Cl) z [] .null → Exa Z h' a ad → Ovr Z kA Cl → Go C R q Z EL n0 Q T' pc' Ls (.ref a :: st)) : Go C R q Z EL n0 Q T pc Ls (.int z :: st) := by
  subst hk' hn'
  obtain ⟨-, rfl⟩ := id hi
  obtain ⟨⟨k0, locs, S, N, hS, hk⟩, -⟩ := id X
  obtain ⟨T', h', kA, S', e', E', A', F', O', st'⟩ := newRE S X.exec X.zw X.owned w1 w2 X.eT (g := mkF C.m pc Ls (.int z :: st)) rfl (X.dec hi) rfl hz hcap hbig hc hl had
  exact Go.of st' (g T' h' h.size kA (X.put S' N hS hk e' (CHr.ext E' X.chv) (X.old.ext E')) E' rfl X.n0le (Arv.new A' hz) F' O')
theorem On.castore (X : On C R own b ml rt nm q Z a0 EL n0 vm T h k n) {a : Addr} {kA : ClassId} {z j x y : Int32} {vs : List Value} {dv : Value} {i : Nat} (hi : Ins b pc .castore 1 pc') (V : Arv Z h a kA .char z vs dv) (hin : ¬ j < 0 ∧ j < z) (hj : j.toNatClampNeg = i) (hl : i < vs.length) (hy : nar .char x = y) (ga : n0 ≤ a)
    (g : ∀ T' h', On C R own b ml rt nm q Z a0 EL n0 vm T' h' k n → Wr h h' a i (.int y) → Arv Z h' a kA .char z (vs.set i (.int y)) dv → Go C R q Z EL n0 Q T' pc' Ls st) : Go C R q Z EL n0 Q T pc Ls (.int x :: .int j :: .ref a :: st) := by
  subst hy hj
  obtain ⟨-, rfl⟩ := id hi
  obtain ⟨⟨k0, locs, S, N, hS, hk⟩, -⟩ := id X
  have Sf : Safe Z EL vm h a := Safe.arv X.zw.alike V (by simp)
  obtain ⟨cl, A, V2, V3, V4, V5, V6⟩ := V
  obtain ⟨T', h', S', e', W', st'⟩ := stC S X.exec X.zw X.eT A (j := j) (inb_of V3 hin) (g := mkF C.m pc Ls (.int x :: .int j :: .ref a :: st)) rfl rfl (X.dec hi)
  exact Go.of st' (g T' h' (X.put S' (Fr.snoc S' N ga) hS hk e' (CHr.wr W' Sf X.chv) (X.old.wr W' ga)) W' (Arv.set A V2 V3 V4 V5 V6 (fits_nar_char _) W' _ rfl hl))
theorem On.bastore (X : On C R own b ml rt nm q Z a0 EL n0 vm T h k n) {a : Addr} {kA : ClassId} {z j x y : Int32} {vs : List Value} {dv : Value} {i : Nat} (hi : Ins b pc .bastore 1 pc') (V : Arv Z h a kA .byte z vs dv) (hin : ¬ j < 0 ∧ j < z) (hj : j.toNatClampNeg = i) (hl : i < vs.length) (hy : nar .byte x = y) (ga : n0 ≤ a) (Sf : Safe Z EL vm h a)
    (g : ∀ T' h', On C R own b ml rt nm q Z a0 EL n0 vm T' h' k n → Wr h h' a i (.int y) → Arv Z h' a kA .byte z (vs.set i (.int y)) dv → Go C R q Z EL n0 Q T' pc' Ls st) : Go C R q Z EL n0 Q T pc Ls (.int x :: .int j :: .ref a :: st) := by
  subst hy hj
  obtain ⟨-, rfl⟩ := id hi
  obtain ⟨⟨k0, locs, S, N, hS, hk⟩, -⟩ := id X
  obtain ⟨cl, A, V2, V3, V4, V5, V6⟩ := V
  obtain ⟨T', h', S', e', W', st'⟩ := stB S X.exec X.zw X.eT A (j := j) (inb_of V3 hin) (g := mkF C.m pc Ls (.int x :: .int j :: .ref a :: st)) rfl rfl (X.dec hi)
  exact Go.of st' (g T' h' (X.put S' (Fr.snoc S' N ga) hS hk e' (CHr.wr W' Sf X.chv) (X.old.wr W' ga)) W' (Arv.set A V2 V3 V4 V5 V6 (fits_nar_byte _) W' _ rfl hl))
theorem On.aastore (X : On C R own b ml rt nm q Z a0 EL n0 vm T h k n) {a : Addr} {kA : ClassId} {ty : FieldType} {z j : Int32} {v : Value} {vs : List Value} {dv : Value} {i : Nat} (hi : Ins b pc .aastore 1 pc') (V : Arv Z h a kA ty z vs dv) (hty : ty.isReference = true) (hin : ¬ j < 0 ∧ j < z) (hj : j.toNatClampNeg = i) (hl : i < vs.length) (hf : fits ty v = true) (F : Sto Z h a v) (ga : n0 ≤ a)
    (g : ∀ T' h', On C R own b ml rt nm q Z a0 EL n0 vm T' h' k n → Wr h h' a i v → Arv Z h' a kA ty z (vs.set i v) dv → Go C R q Z EL n0 Q T' pc' Ls st) : Go C R q Z EL n0 Q T pc Ls (v :: .int j :: .ref a :: st) := by
  subst hj
  obtain ⟨-, rfl⟩ := id hi
  obtain ⟨⟨k0, locs, S, N, hS, hk⟩, -⟩ := id X
  have Sf : Safe Z EL vm h a := Safe.arv X.zw.alike V (fun z => by subst z; simp [FieldType.isReference] at hty)
  obtain ⟨cl, A, V2, V3, V4, V5, V6⟩ := V
  obtain ⟨T', h', S', e', W', st'⟩ := stR S X.exec X.zw X.eT A (j := j) (inb_of V3 hin) hty F (g := mkF C.m pc Ls (v :: .int j :: .ref a :: st)) rfl rfl (X.dec hi)
  exact Go.of st' (g T' h' (X.put S' (Fr.snoc S' N ga) hS hk e' (CHr.wr W' Sf X.chv) (X.old.wr W' ga)) W' (Arv.set A V2 V3 V4 V5 V6 hf W' _ rfl hl))
theorem On.arraylength (X : On C R own b ml rt nm q Z a0 EL n0 vm T h k n) {a : Addr} {kA : ClassId} {ty : FieldType} {z : Int32} {vs : List Value} {dv : Value} (hi : Ins b pc .arraylength 1 pc') (V : Arv Z h a kA ty z vs dv)
    (g : Go C R q Z EL n0 Q T pc' Ls (.int z :: st)) : Go C R q Z EL n0 Q T pc Ls (.ref a :: st) := by
  obtain ⟨-, rfl⟩ := id hi
  obtain ⟨⟨k0, locs, S, N, hS, hk⟩, -⟩ := id X
  obtain ⟨cl, A, V2, V3, V4, V5, V6⟩ := V
  refine Go.of (fun t u => S.arraylength X.exec (by rw [X.eT]; exact A.1) (State.isArrayOf_alike X.zw.alike A.2.1) (g := mkF C.m pc Ls (.ref a :: st)) rfl rfl (X.dec hi) t ?_) g
  rw [len_of V3 V4]; exact u
theorem On.caload (X : On C R own b ml rt nm q Z a0 EL n0 vm T h k n) {a : Addr} {kA : ClassId} {z j : Int32} {vs : List Value} {dv v : Value} (hi : Ins b pc .caload 1 pc') (V : Arv Z h a kA .char z vs dv) (hin : ¬ j < 0 ∧ j < z) (hv : vs.getD j.toNatClampNeg dv = v)
    (g : Go C R q Z EL n0 Q T pc' Ls (v :: st)) : Go C R q Z EL n0 Q T pc Ls (.int j :: .ref a :: st) := by
  obtain ⟨-, rfl⟩ := id hi
  obtain ⟨⟨k0, locs, S, N, hS, hk⟩, -⟩ := id X
  obtain ⟨cl, A, V2, V3, V4, V5, V6⟩ := V
  exact Go.of (fun t u => S.caload X.exec (by rw [X.eT]; exact A.1) (State.isArrayOf_alike X.zw.alike A.2.1) A.2.2 (inb_of V3 hin) (V5.at (inb_of V3 hin) hv) (g := mkF C.m pc Ls (.int j :: .ref a :: st)) rfl rfl (X.dec hi) t u) g
theorem On.baload (X : On C R own b ml rt nm q Z a0 EL n0 vm T h k n) {a : Addr} {kA : ClassId} {z j : Int32} {vs : List Value} {dv v : Value} (hi : Ins b pc .baload 1 pc') (V : Arv Z h a kA .byte z vs dv) (hin : ¬ j < 0 ∧ j < z) (hv : vs.getD j.toNatClampNeg dv = v)
    (g : Go C R q Z EL n0 Q T pc' Ls (v :: st)) : Go C R q Z EL n0 Q T pc Ls (.int j :: .ref a :: st) := by
  obtain ⟨-, rfl⟩ := id hi
  obtain ⟨⟨k0, locs, S, N, hS, hk⟩, -⟩ := id X
  obtain ⟨cl, A, V2, V3, V4, V5, V6⟩ := V
  exact Go.of (fun t u => S.baloadBytes X.exec (by rw [X.eT]; exact A.1) (State.isArrayOf_alike X.zw.alike A.2.1) A.2.2 (inb_of V3 hin) (V5.at (inb_of V3 hin) hv) (g := mkF C.m pc Ls (.int j :: .ref a :: st)) rfl rfl (X.dec hi) t u) g
theorem On.aaload (X : On C R own b ml rt nm q Z a0 EL n0 vm T h k n) {a : Addr} {kA : ClassId} {ty : FieldType} {z j : Int32} {vs : List Value} {dv v : Value} (hi : Ins b pc .aaload 1 pc') (V : Arv Z h a kA ty z vs dv) (hty : ty.isReference = true) (hin : ¬ j < 0 ∧ j < z) (hv : vs.getD j.toNatClampNeg dv = v)
    (g : Go C R q Z EL n0 Q T pc' Ls (v :: st)) : Go C R q Z EL n0 Q T pc Ls (.int j :: .ref a :: st) := by
  obtain ⟨-, rfl⟩ := id hi
  obtain ⟨⟨k0, locs, S, N, hS, hk⟩, -⟩ := id X
  obtain ⟨cl, A, V2, V3, V4, V5, V6⟩ := V
  exact Go.of (fun t u => S.aaload X.exec (by rw [X.eT]; exact A.1) (State.isArrayOf_alike X.zw.alike A.2.1) hty A.2.2 (inb_of V3 hin) (V5.at (inb_of V3 hin) hv) (g := mkF C.m pc Ls (.int j :: .ref a :: st)) rfl rfl (X.dec hi) t u) g
theorem On.ldcI (X : On C R own b ml rt nm q Z a0 EL n0 vm T h k n) {ix : Nat} {v : Int32} (hi : Ins b pc (.ldc ix) 2 pc') (w : (Cond.constant own ix v).before a0 Z = true) (g : Go C R q Z EL n0 Q T pc' Ls (.int v :: st)) : Go C R q Z EL n0 Q T pc Ls st := by
  obtain ⟨-, rfl⟩ := id hi
  obtain ⟨⟨k0, locs, S, N, hS, hk⟩, -⟩ := id X
  exact Go.of (fun t u => S.ldcI X.exec X.owned (mv (s := C.s.setVm vm) X.zw w) (g := mkF C.m pc Ls st) rfl (X.dec hi) u) g
theorem On.ldc2J (X : On C R own b ml rt nm q Z a0 EL n0 vm T h k n) {ix : Nat} {v : Int64} (hi : Ins b pc (.ldc2_w ix) 3 pc') (w : (Cond.constantLong own ix v).before a0 Z = true) (g : Go C R q Z EL n0 Q T pc' Ls (.long v :: st)) : Go C R q Z EL n0 Q T pc Ls st := by
  obtain ⟨-, rfl⟩ := id hi
  obtain ⟨⟨k0, locs, S, N, hS, hk⟩, -⟩ := id X
  exact Go.of (fun t u => S.ldc2J X.exec X.owned (mv (s := C.s.setVm vm) X.zw w) (g := mkF C.m pc Ls st) rfl (X.dec hi) u) g
theorem On.checkcast (X : On C R own b ml rt nm q Z a0 EL n0 vm T h k n) {K : String} {ix : Nat} {a : Addr} (hi : Ins b pc (.checkcast ix) 3 pc') (w : (Cond.classLink own ix K).before a0 Z = true) (F : RoadKit.Ins Z h a K true)
    (g : ∀ T', On C R own b ml rt nm q Z a0 EL n0 vm T' h k n → Go C R q Z EL n0 Q T' pc' Ls (.ref a :: st)) : Go C R q Z EL n0 Q T pc Ls (.ref a :: st) := by
  obtain ⟨-, rfl⟩ := id hi
  obtain ⟨⟨k0, locs, S, N, hS, hk⟩, -⟩ := id X
  obtain ⟨T', S', e', st'⟩ := castY S X.exec X.zw X.owned w X.eT F (g := mkF C.m pc Ls (.ref a :: st)) rfl rfl (X.dec hi)
  exact Go.of st' (g T' (X.put S' N hS hk e' (CHr.refl X.chv) X.old))
theorem On.instY (X : On C R own b ml rt nm q Z a0 EL n0 vm T h k n) {K : String} {ix : Nat} {a : Addr} (hi : Ins b pc (.instanceof ix) 3 pc') (w : (Cond.classLink own ix K).before a0 Z = true) (F : RoadKit.Ins Z h a K true)
    (g : ∀ T', On C R own b ml rt nm q Z a0 EL n0 vm T' h k n → Go C R q Z EL n0 Q T' pc' Ls (.int 1 :: st)) : Go C R q Z EL n0 Q T pc Ls (.ref a :: st) := by
  obtain ⟨-, rfl⟩ := id hi
  obtain ⟨⟨k0, locs, S, N, hS, hk⟩, -⟩ := id X
  obtain ⟨T', S', e', st'⟩ := RoadKit.instY S X.exec X.zw X.owned w X.eT F (g := mkF C.m pc Ls (.ref a :: st)) rfl rfl (X.dec hi)
  exact Go.of st' (g T' (X.put S' N hS hk e' (CHr.refl X.chv) X.old))
theorem On.instNo (X : On C R own b ml rt nm q Z a0 EL n0 vm T h k n) {K Cl : String} {ix : Nat} {a : Addr} (hi : Ins b pc (.instanceof ix) 3 pc') (w : (Cond.classLink own ix K).before a0 Z = true) (E : Exa Z h a Cl) (F : ∃ c t, Z.vm.findClass Cl = some c ∧ Z.vm.findClass K = some t ∧ Z.vm.assignable c t = false)
    (g : ∀ T', On C R own b ml rt nm q Z a0 EL n0 vm T' h k n → Go C R q Z EL n0 Q T' pc' Ls (.int 0 :: st)) : Go C R q Z EL n0 Q T pc Ls (.ref a :: st) := by
  obtain ⟨-, rfl⟩ := id hi
  obtain ⟨⟨k0, locs, S, N, hS, hk⟩, -⟩ := id X
  obtain ⟨T', S', e', st'⟩ := RoadKit.instNo S X.exec X.zw X.owned w X.eT E F (g := mkF C.m pc Ls (.ref a :: st)) rfl rfl (X.dec hi)
  exact Go.of st' (g T' (X.put S' N hS hk e' (CHr.refl X.chv) X.old))
/-- Object.<init> -/
theorem On.initO (X : On C R own b ml rt nm q Z a0 EL n0 vm T h k n) {ix W : Nat} {a : Addr} (hi : Ins b pc (.invokespecial ix) 3 pc') (w1 : (Cond.methodLink own ix Lib.objectInit).before a0 Z = true) (w2 : (Cond.instanceMethod Lib.objectInit).before a0 Z = true) (w3 : (Cond.code Lib.objectInit ⟨#[0xb1]⟩ 1 none).before a0 Z = true)
    (hsz : Ls.size = ml) (hf : 1 ≤ R.frames) (hW : 0 + (st.map fun v => v.category).sum = W) (hl : W + 12 ≤ R.locals)
    (g : ∀ T', On C R own b ml rt nm q Z a0 EL n0 vm T' h k n → Go C R q Z EL n0 Q T' pc' Ls st) : Go C R q Z EL n0 Q T pc Ls (.ref a :: st) := by
  obtain ⟨-, rfl⟩ := id hi
  obtain ⟨⟨k0, locs, S, N, hS, hk⟩, -, -, -, hml, -⟩ := id X
  obtain ⟨T', S', e', st'⟩ := RoadKit.initO S X.exec X.zw X.owned w1 w2 w3 X.eT (g := mkF C.m pc Ls (.ref a :: st)) rfl (hsz.trans hml.symm) rfl (X.dec hi) hf (W := W) (Nat.le_of_eq hW) hl
  exact Go.of st' (g T' (X.put S' N hS hk e' (CHr.refl X.chv) X.old))
/-! ### the end -/
theorem On.leave (X : On C R own b ml rt nm q Z a0 EL n0 vm T h k n) {v : Option Value} (hv : rt = none → v = none) (hk : k ≤ R.cells) (hn : n ≤ R.slots) (hQ : ∀ sf : Addr → Prop, (∀ x, Safe Z EL vm h x → sf x) → Q v h sf) {Ls : Array Slot} {st : List Value}
    (f : ∀ locs fs, Stand C.p C.l C.e R (C.s.setVm vm) C.m C.args C.below C.meth C.c T locs k n → (∀ (f : JFrame) (acts : List Action), f.method = C.m → f.locked = none → f.entered = [] → (doReturn C.e (T.setTop f) acts v).1 = T.setFrames fs) → Steps C.p.tables C.e C.below (T.setTop (mkF C.m pc Ls st)) (T.setFrames fs)) :
    Go C R q Z EL n0 Q T pc Ls st := by
  obtain ⟨⟨k0, locs, S, N, hS, hk0⟩, eT, e2, e3, e4, e5, e6, e7, e8, e9, e10, e11, e12, e13⟩ := X
  subst eT
  obtain ⟨fs, h1, h2, h3, h4⟩ := S.leaveW hS hk0 (v := v) (fun z => hv (e5.symm.trans z)) e7
  obtain ⟨r1, r2, r3, r4⟩ := h4
  have r5 : C.s.sameButNew { T.setFrames fs with vm := C.s.vm } locs R.cells R.slots := r4.mono hk hn
  have cA : CHr Z EL vm T.heap T.vm T.heap := CHv.at S e8 e10 e11.1
  have hQ2 : Q v T.heap (Safe Z EL T.vm T.heap) := hQ _ fun x hx => by
    by_cases hl : x < T.heap.size
    · exact cA.safe hl hx
    · exact Safe.new (Nat.le_of_not_lt hl)
  refine ⟨T.setFrames fs, .returned v, f locs fs S h1, h2, h3, v, locs, rfl, ⟨hQ2, N, e13⟩, e11.trans (show CHr Z EL vm T.heap T.vm T.heap from CHv.at S e8 e10 e11.1), ⟨r1, r2, r3, r5⟩, fun hq => ⟨r1, ?_, r5⟩⟩
  exact State.WarmedH.trans (t := C.s.setVm vm) (e12 hq) S.warmed
theorem On.ret (X : On C R own b ml rt nm q Z a0 EL n0 vm T h k n) (hi : Ins b pc .return_ 1 pc') (hr : rt = none) (hk : k ≤ R.cells) (hn : n ≤ R.slots) (hQ : ∀ sf : Addr → Prop, (∀ x, Safe Z EL vm h x → sf x) → Q none h sf) : Go C R q Z EL n0 Q T pc Ls [] :=
  X.leave (v := none) (fun _ => rfl) hk hn hQ fun locs fs S hl => S.returnOut X.exec (X.2.2.2.2.2.1.trans hr) (X.dec hi) hl
theorem On.ireturn (X : On C R own b ml rt nm q Z a0 EL n0 vm T h k n) {t : FieldType} {z : Int32} (hi : Ins b pc .ireturn 1 pc') (hr : rt = some t) (ht : t = .int ∨ t = .boolean ∨ t = .byte ∨ t = .char ∨ t = .short) (hz : narrow t (.int z) = .int z) (hk : k ≤ R.cells) (hn : n ≤ R.slots) (hQ : ∀ sf : Addr → Prop, (∀ x, Safe Z EL vm h x → sf x) → Q (some (.int z)) h sf) : Go C R q Z EL n0 Q T pc Ls (.int z :: st) :=
  X.leave (v := some (.int z)) (fun y => by rw [hr] at y; cases y) hk hn hQ fun locs fs S hl => retOut S X.exec (X.2.2.2.2.2.1.trans hr) hz (Or.inl ⟨rfl, ht, z, rfl⟩) (X.dec hi) hl
theorem On.lreturn (X : On C R own b ml rt nm q Z a0 EL n0 vm T h k n) {z : Int64} (hi : Ins b pc .lreturn 1 pc') (hr : rt = some .long) (hk : k ≤ R.cells) (hn : n ≤ R.slots) (hQ : ∀ sf : Addr → Prop, (∀ x, Safe Z EL vm h x → sf x) → Q (some (.long z)) h sf) : Go C R q Z EL n0 Q T pc Ls (.long z :: st) :=
  X.leave (v := some (.long z)) (fun y => by rw [hr] at y; cases y) hk hn hQ fun locs fs S hl => retOut S X.exec (X.2.2.2.2.2.1.trans hr) rfl (Or.inr (Or.inl ⟨rfl, rfl, z, rfl⟩)) (X.dec hi) hl
theorem On.areturn (X : On C R own b ml rt nm q Z a0 EL n0 vm T h k n) {t : FieldType} {v : Value} (hi : Ins b pc .areturn 1 pc') (hr : rt = some t) (ht : t.isReference = true) (hv : v.isRef = true) (hk : k ≤ R.cells) (hn : n ≤ R.slots) (hQ : ∀ sf : Addr → Prop, (∀ x, Safe Z EL vm h x → sf x) → Q (some v) h sf) : Go C R q Z EL n0 Q T pc Ls (v :: st) :=
  X.leave (v := some v) (fun y => by rw [hr] at y; cases y) hk hn hQ fun locs fs S hl => retOut S X.exec (X.2.2.2.2.2.1.trans hr) (by cases t <;> cases v <;> first | rfl | simp [FieldType.isReference] at ht | simp [Value.isRef] at hv) (Or.inr (Or.inr (Or.inr (Or.inr ⟨rfl, ht, hv⟩)))) (X.dec hi) hl
end Heap
end Jvm.Own
namespace Jvm.Own
open Jvm Jvm.ClassFile Sem Op Lib Jvm.Free Jvm.Stand Jvm.LawKit Jvm.RoadKit Bundle
/-! ### contracts and calls -/
/-- the contract of a body, at a heap and for arguments: ws are the String and byte[] cells that it may write -/
def Con (wl : List Jvm.Cond) (q : Bool) (l : Launch) (Z : State) (EL : List (String × Nat)) (n0 : Nat) (ws : List Addr) (y : MethodName) (bytes : ByteArray) (maxL : Nat) (ret : Option FieldType) (rm : Room) (as' : Array Value) (h : Heap) (Q : Option Value → Heap → (Addr → Prop) → Prop) : Prop :=
  MetFree l y (head1 (Cond.code y bytes maxL ret :: wl) rm) (fun a U => a = as' ∧ Z.Warmed39 U.vm ∧ U.heap = h ∧ CHv Z EL U.vm h ∧ ∀ x ∈ ws, Safe Z EL U.vm h x) (fun _ _ _ _ _ => True)
    (fun _ U o U' => ∃ v L, o = .returned v ∧ (Q v U'.heap (Safe Z EL U'.vm U'.heap) ∧ Fr n0 L ∧ Old Z n0 U'.heap) ∧ CHr Z EL U.vm U.heap U'.vm U'.heap ∧ EndQ q U o U' L rm.cells rm.slots)
theorem Con.intro {wl : List Jvm.Cond} {q : Bool} {l : Launch} {Z : State} {a0 : Array Value} {EL : List (String × Nat)} {n0 : Nat} {ws : List Addr} {y : MethodName} {bytes : ByteArray} {maxL : Nat} {ret : Option FieldType} {rm : Room} {as' : Array Value} {h : Heap} {Q : Option Value → Heap → (Addr → Prop) → Prop} {Ls : Array Slot}
    (hp : plainFor y = true) (hEL : EW Z a0 EL) (hO : Old Z n0 h) (ef : ∀ m, entryFrame m as' maxL = mkF m 0 Ls [])
    (body : ∀ (C : Cx) (vm : Vm) (T : State), C.l = l → On C rm y.cls bytes maxL ret y.name q Z a0 EL n0 vm T h 0 0 → (∀ x ∈ ws, Safe Z EL vm h x) → Go C rm q Z EL n0 Q T 0 Ls []) : Con wl q l Z EL n0 ws y bytes maxL ret rm as' h Q := by
  refine MetFree.of_bodySF hp hisR ?_
  intro p e s m args below meth c s₁ Bd hml0 hP hK
  obtain ⟨rfl, hZ, rfl, hC, hw⟩ := hP
  have e0 : s₁.heap = s.heap := by rw [Bd.state]; rfl
  have S0 : Stand p l e rm s m args below meth c s₁ [] 0 0 := Stand.of_body Bd
  have g := body (p, l, e, s, m, args, below, meth, c) s.vm s₁ rfl ⟨⟨0, [], S0, Fr.nil n0, (State.WarmedH.refl s).since 0, Nat.zero_le _⟩, e0, Bd.exec, Bd.bytes, hml0, Bd.returns, (name_of_methodNamed Bd.named Bd.method).1, Bd.notSynchronized, hZ, findClass_of_methodNamed Bd.named, hEL, CHr.refl hC, fun _ => State.WarmedH.refl s, hO⟩ hw
  obtain ⟨s2, o, g1, g2, g3, v, L, g4, g5, g6, g7⟩ := g
  refine ⟨s2, o, castTop (ef m) g1, g2, g3, v, L, g4, g5, g6, g7⟩
theorem backQ {q : Bool} {l : Launch} {Z : State} {a0 : Array Value} {EL : List (String × Nat)} {n0 : Nat} {ws : List Addr} {y : MethodName} {bytes : ByteArray} {maxL : Nat} {ret : Option FieldType} {rm R : Room} {as' : Array Value} {h : Heap} {Q : Option Value → Heap → (Addr → Prop) → Prop} {p : Program} {e : Env} {below : List Frame} {s : State} {args : Array Value} {vm : Vm} {len W : Nat}
    (hM : Con [] q l Z EL n0 ws y bytes maxL ret rm as' h Q) (hZ : Z.Warmed39 vm) (wc : (Cond.code y bytes maxL ret).before a0 Z = true) (wz : (Cond.initialized y.cls).before a0 Z = true) (hf : rm.frames + 1 ≤ R.frames) (hl : W + (maxL + 11) + rm.locals ≤ R.locals) (hEL : EW Z a0 EL) (H : CHv Z EL vm h) (hs : ∀ x ∈ ws, Safe Z EL vm h x ∧ x < h.size) :
    BackS l R p e below (s.setVm vm) args y len W (fun A a => a = as' ∧ A.U.heap = h ∧ A.cells + rm.cells ≤ R.cells ∧ A.slots + rm.slots ≤ R.slots)
      (fun A _ v B => ∃ L, (Q v B.U.heap (Safe Z EL B.U.vm B.U.heap) ∧ Fr n0 L ∧ Old Z n0 B.U.heap) ∧ B.locs = A.locs ++ L ∧ B.cells = A.cells + rm.cells ∧ B.slots = A.slots + rm.slots ∧ CHr Z EL vm h B.U.vm B.U.heap ∧ (q = true → (s.setVm vm).WarmedH B.U.vm)) :=
  BackS.of_freeW (bytes := bytes) (maxL := maxL) (ret := ret) (E := fun _ first o t L k n => k = rm.cells ∧ n = rm.slots ∧ (∃ v, o = .returned v ∧ (Q v t.heap (Safe Z EL t.vm t.heap) ∧ Fr n0 L ∧ Old Z n0 t.heap)) ∧ CHr Z EL first.vm first.heap t.vm t.heap ∧ (q = true → first.WarmedH t.vm)) hM hf hl
    (fun m meth c A a Y hp => have hU : Z.Warmed39 A.U.vm := wtrans (s := s.setVm vm) hZ Y.warmed
      ⟨by show (Cond.and _ .tt).before a A.U = true; rw [Cond.before_and, mv hU wc]; rfl, mv hU wc, mv hU wz, hp.2.2.1, hp.2.2.2⟩)
    (fun m meth c A a g mk Y hp => ⟨hp.1, wtrans (s := s.setVm vm) hZ Y.warmed, hp.2.1, (CHv.at Y hZ hEL H).1, fun x hx => (CHv.at Y hZ hEL H).safe (hs x hx).2 (hs x hx).1⟩) (fun _ _ _ _ _ _ _ _ _ => trivial)
    (fun _ _ _ _ ⟨v, L, h1, h2, h3, h4⟩ => ⟨L, _, _, h4.1, rfl, rfl, ⟨v, h1, h2⟩, h3, fun hq => (h4.2 hq).2.1⟩)
    (fun m meth c A a g mk v t L k n Y hp _ _ ⟨e1, e2, ⟨v', e3, e4⟩, e5, e6⟩ => by
      cases e3; subst e1 e2
      refine ⟨L, e4, rfl, rfl, rfl, (CHv.at Y hZ hEL H).trans ?_, fun hq => State.WarmedH.trans (t := A.U) Y.warmed (e6 hq)⟩
      rw [← hp.2.1]; exact e5)
section Calls
variable {C : Cx} {R : Room} {own : String} {b : ByteArray} {ml : Nat} {rt : Option FieldType} {nm : String} {q : Bool} {Z : State} {a0 : Array Value} {EL : List (String × Nat)} {n0 : Nat} {vm : Vm} {T : State} {h : Heap} {k n : Nat} {Q : Option Value → Heap → (Addr → Prop) → Prop} {pc pc' pt : Nat} {Ls Ls' : Array Slot} {st : List Value}
/-- behind a call: where the walk stands -/
theorem On.after (X : On C R own b ml rt nm q Z a0 EL n0 vm T h k n) {B : Pt} {rm : Room} {Q' : Prop} {k' n' k0 : Nat} {locs : List Loc} (N : Fr n0 locs) (hS : C.s.Since vm k0) (hk : k0 ≤ h.size)
    (S' : Stand C.p C.l C.e R ((C.s.setVm vm).setVm B.U.vm) C.m C.args C.below C.meth C.c B.U B.locs B.cells B.slots) (hs : (C.s.setVm vm).Since B.U.vm B.U.heap.size) (hg : T.heap.size ≤ B.U.heap.size)
    (hp : ∃ L, (Q' ∧ Fr n0 L ∧ Old Z n0 B.U.heap) ∧ B.locs = locs ++ L ∧ B.cells = k + rm.cells ∧ B.slots = n + rm.slots ∧ CHr Z EL vm h B.U.vm B.U.heap ∧ (q = true → (C.s.setVm vm).WarmedH B.U.vm)) (hk' : k + rm.cells = k') (hn' : n + rm.slots = n') :
    On C R own b ml rt nm q Z a0 EL n0 B.U.vm B.U B.U.heap k' n' ∧ CHr Z EL vm h B.U.vm B.U.heap ∧ Q' := by
  obtain ⟨-, e1, e2, e3, e4, e5, e6, e7, e8, e9, e10, e11, e12, e13⟩ := X
  obtain ⟨L, ⟨r1, r2, r8⟩, r3, r4, r5, r6, r7⟩ := hp
  subst hk' hn'
  rw [r3, r4, r5] at S'
  rw [e1] at hg
  exact ⟨⟨⟨_, _, S', N.app r2, hS.trans hs (Nat.le_trans hk hg), Nat.le_refl _⟩, rfl, e2, e3, e4, e5, e6, e7, State.Warmed39.trans (t := C.s.setVm vm) e8 hs.1, by rw [hs.1.alike.findClass]; exact e9, e10, e11.trans r6, fun hq => State.WarmedH.trans (t := C.s.setVm vm) (e12 hq) (r7 hq), r8⟩, r6, r1⟩
theorem On.callS (X : On C R own b ml rt nm q Z a0 EL n0 vm T h k n) {l : Launch} (hl0 : C.l = l) {ix W k' n' : Nat} {y : MethodName} {bytes : ByteArray} {maxL : Nat} {ret r : Option FieldType} {ps : List FieldType} {rm : Room} {Q' : Option Value → Heap → (Addr → Prop) → Prop} {ws : List Addr} {argsL sta : List Value} (hi : Ins b pc (.invokestatic ix) 3 pc')
    (hM : Con [] q l Z EL n0 ws y bytes maxL ret rm argsL.toArray h Q') (w1 : (Cond.methodLink own ix y).before a0 Z = true) (w2 : (Cond.static y).before a0 Z = true) (w3 : (Cond.initialized y.cls).before a0 Z = true) (w4 : (Cond.code y bytes maxL ret).before a0 Z = true) (hy : y.cls ≠ "java/lang/invoke/MethodHandle" ∧ y.cls ≠ "java/lang/invoke/VarHandle")
    (hs : ∀ x ∈ ws, Safe Z EL vm h x ∧ x < h.size) (hd : parseMethodDescriptor y.desc = some ⟨ps, r⟩) (hn : argsL.length = ps.length) (hst : sta = argsL.reverse ++ st) (hsz : Ls.size = ml) (hW : 0 + (st.map fun v => v.category).sum = W) (hf : rm.frames + 1 ≤ R.frames) (hl : W + (maxL + 11) + rm.locals ≤ R.locals)
    (hk' : k + rm.cells = k') (hn' : n + rm.slots = n') (hc : k' ≤ R.cells) (hsl : n' ≤ R.slots)
    (g : ∀ vm' T' h' v, On C R own b ml rt nm q Z a0 EL n0 vm' T' h' k' n' → CHr Z EL vm h vm' h' → Q' v h' (Safe Z EL vm' h') → Go C R q Z EL n0 Q T' pc' Ls (v.toList ++ st)) : Go C R q Z EL n0 Q T pc Ls sta := by
  subst hl0 hst
  obtain ⟨-, rfl⟩ := id hi
  obtain ⟨⟨k0, locs, S, N, hS, hk⟩, -, -, -, hml, -⟩ := id X
  obtain ⟨v, vm1, B, -, S', s1, s2, hp, stp⟩ := callSS S X.exec (y := y) X.owned (mv (s := C.s.setVm vm) X.zw w1) (mv (s := C.s.setVm vm) X.zw w2) (mv (s := C.s.setVm vm) X.zw w3) (mv (s := C.s.setVm vm) X.zw w4) hy (backQ (W := W) hM X.zw w4 w3 hf hl X.ew X.chv hs) (g := mkF C.m pc Ls (argsL.reverse ++ st)) rfl (hsz.trans hml.symm) (argsL := argsL) (rest := st) (lenOf hd hn) rfl (by show 2 * 0 + _ ≤ _; omega) (X.dec hi)
    (fun _ _ => ⟨rfl, X.eT, hk' ▸ hc, hn' ▸ hsl⟩)
  obtain ⟨X', r1, r2⟩ := X.after N hS hk S' s1 s2 hp hk' hn'
  exact Go.of (fun t u => stp.trans u) (g _ _ _ v X' r1 r2)
theorem On.callI (X : On C R own b ml rt nm q Z a0 EL n0 vm T h k n) {l : Launch} (hl0 : C.l = l) {ix W k' n' : Nat} {y : MethodName} {bytes : ByteArray} {maxL : Nat} {r : Option FieldType} {ps : List FieldType} {rm : Room} {Q' : Option Value → Heap → (Addr → Prop) → Prop} {ws : List Addr} {a : Addr} {argsL sta : List Value} (hi : Ins b pc (.invokespecial ix) 3 pc')
    (hM : Con [] q l Z EL n0 ws y bytes maxL none rm (.ref a :: argsL).toArray h Q') (w1 : (Cond.methodLink own ix y).before a0 Z = true) (w2 : (Cond.instanceMethod y).before a0 Z = true) (w3 : (Cond.initialized y.cls).before a0 Z = true) (w4 : (Cond.code y bytes maxL none).before a0 Z = true) (hy1 : y.name = "<init>") (hy : y.cls ≠ "java/lang/invoke/MethodHandle" ∧ y.cls ≠ "java/lang/invoke/VarHandle")
    (hs : ∀ x ∈ ws, Safe Z EL vm h x ∧ x < h.size) (hd : parseMethodDescriptor y.desc = some ⟨ps, r⟩) (hn : argsL.length = ps.length) (hst : sta = argsL.reverse ++ .ref a :: st) (hsz : Ls.size = ml) (hW : 0 + (st.map fun v => v.category).sum = W) (hf : rm.frames + 1 ≤ R.frames) (hl : W + (maxL + 11) + rm.locals ≤ R.locals)
    (hk' : k + rm.cells = k') (hn' : n + rm.slots = n') (hc : k' ≤ R.cells) (hsl : n' ≤ R.slots)
    (g : ∀ vm' T' h' v, On C R own b ml rt nm q Z a0 EL n0 vm' T' h' k' n' → CHr Z EL vm h vm' h' → Q' v h' (Safe Z EL vm' h') → Go C R q Z EL n0 Q T' pc' Ls (v.toList ++ st)) : Go C R q Z EL n0 Q T pc Ls sta := by
  subst hl0 hst
  obtain ⟨-, rfl⟩ := id hi
  obtain ⟨⟨k0, locs, S, N, hS, hk⟩, -, -, -, hml, -⟩ := id X
  obtain ⟨v, vm1, B, -, S', s1, s2, hp, stp⟩ := S.specialBackS X.exec (y := y) hy1 X.owned (mv (s := C.s.setVm vm) X.zw w1) (mv (s := C.s.setVm vm) X.zw w2) (mv (s := C.s.setVm vm) X.zw w4) hy (backQ (W := W) hM X.zw w4 w3 hf hl X.ew X.chv hs) (g := mkF C.m pc Ls (argsL.reverse ++ .ref a :: st)) rfl (hsz.trans hml.symm) (Steps.refl _) (a := a) (argsL := argsL) (rest := st) (lenOf hd hn) rfl (by show 2 * 0 + _ ≤ _; omega) (X.dec hi)
    (fun _ _ => ⟨rfl, X.eT, hk' ▸ hc, hn' ▸ hsl⟩)
  obtain ⟨X', r1, r2⟩ := X.after N hS hk S' s1 s2 hp hk' hn'
  exact Go.of (fun t u => stp.trans u) (g _ _ _ v X' r1 r2)
/-- an instance method: y as the entry names it, z as the receiver's class Cl selects it -/
theorem On.callV (X : On C R own b ml rt nm q Z a0 EL n0 vm T h k n) {l : Launch} (hl0 : C.l = l) {ix W k' n' : Nat} {y z : MethodName} {Cl : String} {bytes : ByteArray} {maxL : Nat} {ret r : Option FieldType} {ps : List FieldType} {rm : Room} {Q' : Option Value → Heap → (Addr → Prop) → Prop} {ws : List Addr} {a : Addr} {argsL sta : List Value} (hi : Ins b pc (.invokevirtual ix) 3 pc')
    (hM : Con [] q l Z EL n0 ws z bytes maxL ret rm (.ref a :: argsL).toArray h Q') (E : Exa Z h a Cl) (w1 : (Cond.methodLink own ix y).before a0 Z = true) (w2 : (Cond.declares y).before a0 Z = true) (w5 : (Cond.selects Cl y z).before a0 Z = true) (hnf : NotFace (C.s.setVm vm) y) (w6 : (Cond.instanceMethod z).before a0 Z = true) (w3 : (Cond.initialized z.cls).before a0 Z = true) (w4 : (Cond.code z bytes maxL ret).before a0 Z = true) (hy : y.cls ≠ "java/lang/invoke/MethodHandle" ∧ y.cls ≠ "java/lang/invoke/VarHandle")
    (hs : ∀ x ∈ ws, Safe Z EL vm h x ∧ x < h.size) (hd : parseMethodDescriptor y.desc = some ⟨ps, r⟩) (hn : argsL.length = ps.length) (hst : sta = argsL.reverse ++ .ref a :: st) (hsz : Ls.size = ml) (hW : 0 + (st.map fun v => v.category).sum = W) (hf : rm.frames + 1 ≤ R.frames) (hl : W + (maxL + 11) + rm.locals ≤ R.locals)
    (hk' : k + rm.cells = k') (hn' : n + rm.slots = n') (hc : k' ≤ R.cells) (hsl : n' ≤ R.slots)
    (g : ∀ vm' T' h' v, On C R own b ml rt nm q Z a0 EL n0 vm' T' h' k' n' → CHr Z EL vm h vm' h' → Q' v h' (Safe Z EL vm' h') → Go C R q Z EL n0 Q T' pc' Ls (v.toList ++ st)) : Go C R q Z EL n0 Q T pc Ls sta := by
  subst hl0 hst
  obtain ⟨-, rfl⟩ := id hi
  obtain ⟨⟨k0, locs, S, N, hS, hk⟩, -, -, -, hml, -⟩ := id X
  obtain ⟨cB, kB, q1, q2, q3⟩ := isOf (s := C.s.setVm vm) X.zw X.eT E
  obtain ⟨v, vm1, B, -, S', s1, s2, hp, stp⟩ := S.virtualBackS X.exec (y := y) (z := z) X.owned (mv (s := C.s.setVm vm) X.zw w1) (mv (s := C.s.setVm vm) X.zw w2) hnf (mv (s := C.s.setVm vm) X.zw w5) (mv (s := C.s.setVm vm) X.zw w6) hy (backQ (W := W) hM X.zw w4 w3 hf hl X.ew X.chv hs) q1 q3 (g := mkF C.m pc Ls (argsL.reverse ++ .ref a :: st)) rfl (hsz.trans hml.symm) (Steps.refl _) (argsL := argsL) (rest := st) (lenOf hd hn) rfl (by show 2 * 0 + _ ≤ _; omega) (X.dec hi)
    (fun _ _ => ⟨rfl, X.eT, hk' ▸ hc, hn' ▸ hsl⟩)
  obtain ⟨X', r1, r2⟩ := X.after N hS hk S' s1 s2 hp hk' hn'
  exact Go.of (fun t u => stp.trans u) (g _ _ _ v X' r1 r2)
theorem nfSel {s : State} {Cl : String} {y : MethodName} (hZ : Z.Warmed39 vm) (w : (Cond.selects Cl y y).before a0 Z = true) : NotFace (s.setVm vm) y := notFace_of_selects (args := #[]) (mv (s := s.setVm vm) hZ w)
end Calls
end Jvm.Own
namespace Jvm.Own
open Jvm Jvm.ClassFile Sem Op Lib Jvm.Free Jvm.Stand Jvm.LawKit Jvm.RoadKit Bundle
/-! ### calls that a Back pays, and Strings -/
section Backs
variable {C : Cx} {R : Room} {own : String} {b : ByteArray} {ml : Nat} {rt : Option FieldType} {nm : String} {q : Bool} {Z : State} {a0 : Array Value} {EL : List (String × Nat)} {n0 : Nat} {vm : Vm} {T : State} {h : Heap} {k n : Nat} {Q : Option Value → Heap → (Addr → Prop) → Prop} {pc pc' pt : Nat} {Ls Ls' : Array Slot} {st : List Value}
theorem On.backI (X : On C R own b ml rt nm q Z a0 EL n0 vm T h k n) {ix W k' n' kc ks : Nat} {y : MethodName} {bytes : ByteArray} {maxL : Nat} {r : Option FieldType} {ps : List FieldType} {QQ : Option Value → Heap → List Loc → Prop} {a : Addr} {argsL sta : List Value} (hi : Ins b pc (.invokespecial ix) 3 pc')
    (hK : Back C.l R C.p C.e C.below (C.s.setVm vm) C.args y 3 W (fun P a' => a' = (.ref a :: argsL).toArray ∧ P.U.heap = h ∧ P.cells + kc ≤ R.cells ∧ P.slots + ks ≤ R.slots) (fun P _ v B => ∃ L, QQ v B.U.heap L ∧ B.locs = P.locs ++ L ∧ B.cells = P.cells + kc ∧ B.slots = P.slots + ks))
    (hQ : ∀ v h' L, QQ v h' L → Fr n0 L ∧ CHr Z EL vm h vm h' ∧ Old Z n0 h') (w1 : (Cond.methodLink own ix y).before a0 Z = true) (w2 : (Cond.instanceMethod y).before a0 Z = true) (w4 : (Cond.code y bytes maxL none).before a0 Z = true) (hy1 : y.name = "<init>") (hy : y.cls ≠ "java/lang/invoke/MethodHandle" ∧ y.cls ≠ "java/lang/invoke/VarHandle")
    (hd : parseMethodDescriptor y.desc = some ⟨ps, r⟩) (hn : argsL.length = ps.length) (hst : sta = argsL.reverse ++ .ref a :: st) (hsz : Ls.size = ml) (hW : 0 + (st.map fun v => v.category).sum = W)
    (hk' : k + kc = k') (hn' : n + ks = n') (hc : k' ≤ R.cells) (hsl : n' ≤ R.slots)
    (g : ∀ T' h' v L, On C R own b ml rt nm q Z a0 EL n0 vm T' h' k' n' → QQ v h' L → Go C R q Z EL n0 Q T' pc' Ls (v.toList ++ st)) : Go C R q Z EL n0 Q T pc Ls sta := by
  subst hst hk' hn'
  obtain ⟨-, rfl⟩ := id hi
  obtain ⟨⟨k0, locs, S, N, hS, hk⟩, -, -, -, hml, -⟩ := id X
  obtain ⟨v, vm1, B, -, S', hp, stp⟩ := S.specialBack X.exec (y := y) hy1 X.owned (mv (s := C.s.setVm vm) X.zw w1) (mv (s := C.s.setVm vm) X.zw w2) (mv (s := C.s.setVm vm) X.zw w4) hy hK (g := mkF C.m pc Ls (argsL.reverse ++ .ref a :: st)) rfl (hsz.trans hml.symm) (Steps.refl _) (a := a) (argsL := argsL) (rest := st) (lenOf hd hn) rfl (by show 2 * 0 + _ ≤ _; omega) (X.dec hi)
    (fun _ _ => ⟨rfl, X.eT, hc, hsl⟩)
  obtain ⟨L, r1, r2, r3, r4⟩ := hp
  rw [r2, r3, r4] at S'
  obtain ⟨f1, f2, f3⟩ := hQ v _ L r1
  exact Go.of (fun t u => stp.trans u) (g _ _ v L (X.put S' (N.app f1) hS hk rfl f2 f3) r1)
theorem On.backVt (X : On C R own b ml rt nm q Z a0 EL n0 vm T h k n) {ix W k' n' kc ks : Nat} {y z : MethodName} {Cl : String} {r : Option FieldType} {ps : List FieldType} {QQ : Option Value → Heap → List Loc → Prop} {a : Addr} {argsL sta : List Value} (hi : Ins b pc (.invokevirtual ix) 3 pc')
    (hK : Back C.l R C.p C.e C.below (C.s.setVm vm) C.args z 3 W (fun P a' => a' = (.ref a :: argsL).toArray ∧ P.U.heap = h ∧ P.cells + kc ≤ R.cells ∧ P.slots + ks ≤ R.slots) (fun P _ v B => ∃ L, QQ v B.U.heap L ∧ B.locs = P.locs ++ L ∧ B.cells = P.cells + kc ∧ B.slots = P.slots + ks))
    (hQ : ∀ v h' L, QQ v h' L → Fr n0 L ∧ CHr Z EL vm h vm h' ∧ Old Z n0 h') (E : Exa Z h a Cl) (w1 : (Cond.methodLink own ix y).before a0 Z = true) (w2 : (Cond.declares y).before a0 Z = true) (w5 : (Cond.selects Cl y z).before a0 Z = true) (hnf : NotFace (C.s.setVm vm) y) (w6 : (Cond.instanceMethod z).before a0 Z = true) (hy : y.cls ≠ "java/lang/invoke/MethodHandle" ∧ y.cls ≠ "java/lang/invoke/VarHandle")
    (hd : parseMethodDescriptor y.desc = some ⟨ps, r⟩) (hn : argsL.length = ps.length) (hst : sta = argsL.reverse ++ .ref a :: st) (hsz : Ls.size = ml) (hW : 0 + (st.map fun v => v.category).sum = W)
    (hk' : k + kc = k') (hn' : n + ks = n') (hc : k' ≤ R.cells) (hsl : n' ≤ R.slots)
    (g : ∀ T' h' v L, On C R own b ml rt nm q Z a0 EL n0 vm T' h' k' n' → QQ v h' L → Go C R q Z EL n0 Q T' pc' Ls (v.toList ++ st)) : Go C R q Z EL n0 Q T pc Ls sta := by
  subst hst hk' hn'
  obtain ⟨-, rfl⟩ := id hi
  obtain ⟨⟨k0, locs, S, N, hS, hk⟩, -, -, -, hml, -⟩ := id X
  obtain ⟨cB, kB, q1, q2, q3⟩ := isOf (s := C.s.setVm vm) X.zw X.eT E
  obtain ⟨v, vm1, B, -, S', hp, stp⟩ := S.virtualBack X.exec (y := y) (z := z) X.owned (mv (s := C.s.setVm vm) X.zw w1) (mv (s := C.s.setVm vm) X.zw w2) hnf (mv (s := C.s.setVm vm) X.zw w5) (mv (s := C.s.setVm vm) X.zw w6) hy hK q1 q3 (g := mkF C.m pc Ls (argsL.reverse ++ .ref a :: st)) rfl (hsz.trans hml.symm) (Steps.refl _) (argsL := argsL) (rest := st) (lenOf hd hn) rfl (by show 2 * 0 + _ ≤ _; omega) (X.dec hi)
    (fun _ _ => ⟨rfl, X.eT, hc, hsl⟩)
  obtain ⟨L, r1, r2, r3, r4⟩ := hp
  rw [r2, r3, r4] at S'
  obtain ⟨f1, f2, f3⟩ := hQ v _ L r1
  exact Go.of (fun t u => stp.trans u) (g _ _ v L (X.put S' (N.app f1) hS hk rfl f2 f3) r1)
end Backs
/-- a Latin-1 String and its byte[] -/
def Str (Z : State) (h : Heap) (x t : Addr) (kb : ClassId) (cs : List Int32) : Prop :=
  Exa Z h x "java/lang/String" ∧ Fld Z h x "java/lang/String" "value" "[B" (.ref t) ∧ Fld Z h x "java/lang/String" "coder" "B" (.int 0) ∧ Arv Z h t kb .byte (Int32.ofNat cs.length) (cs.map fun c => Value.int c.toInt8.toInt32) (.int 0) ∧ ∀ c ∈ cs, ¬ c < 0 ∧ ¬ (255 : Int32) < c
section Strs
variable {Z : State} {h h' : Heap} {x t a : Addr} {kb : ClassId} {cs : List Int32} {ws : List Addr} {sl : Nat} {v : Value}
theorem Str.ext (F : Str Z h x t kb cs) (E : Ext h h') : Str Z h' x t kb cs := ⟨F.1.ext E, F.2.1.ext E, F.2.2.1.ext E, F.2.2.2.1.ext E, F.2.2.2.2⟩
theorem Str.keep (F : Str Z h x t kb cs) (K : Keep h h' ws) (hx : x ∉ ws) (ht : t ∉ ws) : Str Z h' x t kb cs := ⟨F.1.keep K, F.2.1.keep K hx, F.2.2.1.keep K hx, F.2.2.2.1.keep K ht, F.2.2.2.2⟩
theorem Str.wr (F : Str Z h x t kb cs) (W : Wr h h' a sl v) (hx : x ≠ a) (ht : t ≠ a) : Str Z h' x t kb cs := ⟨F.1.wr W, F.2.1.other W (Or.inl hx), F.2.2.1.other W (Or.inl hx), F.2.2.2.1.other W ht, F.2.2.2.2⟩
theorem Str.lt (F : Str Z h x t kb cs) : x < h.size := F.1.lt
theorem Str.ltT (F : Str Z h x t kb cs) : t < h.size := F.2.2.2.1.lt
theorem own_all0 : ∀ c ∈ ([] : List Int32), ¬ c < 0 ∧ ¬ (255 : Int32) < c := fun _ z => nomatch z
theorem own_allS {c : Int32} {l : List Int32} (p : ¬ c < 0 ∧ ¬ (255 : Int32) < c) (r : ∀ x ∈ l, ¬ x < 0 ∧ ¬ (255 : Int32) < x) : ∀ x ∈ c :: l, ¬ x < 0 ∧ ¬ (255 : Int32) < x := fun x hx => (List.mem_cons.mp hx).elim (fun e => e ▸ p) (r x)
theorem own_and255 (x : Int32) : ¬ (x &&& (255 : Int32)) < 0 ∧ ¬ (255 : Int32) < (x &&& (255 : Int32)) := by
  have q := c_and x 255 (by decide)
  have e : (255 : Int32).toInt = 255 := by decide
  have e0 : (0 : Int32).toInt = 0 := by decide
  rw [e] at q
  constructor
  · intro z; have := Int32.lt_iff_toInt_lt.mp z; omega
  · intro z; have := Int32.lt_iff_toInt_lt.mp z; omega
theorem sf_nil {EL : List (String × Nat)} {vm : Vm} : ∀ x ∈ ([] : List Addr), Safe Z EL vm h x ∧ x < h.size := fun _ z => nomatch z
theorem sf_cons {EL : List (String × Nat)} {vm : Vm} {l : List Addr} (p : Safe Z EL vm h x ∧ x < h.size) (r : ∀ x ∈ l, Safe Z EL vm h x ∧ x < h.size) : ∀ y ∈ x :: l, Safe Z EL vm h y ∧ y < h.size := fun y hy => (List.mem_cons.mp hy).elim (fun e => e ▸ p) (r y)
theorem up16 {c : Int32} (hc : ¬ c < 0 ∧ ¬ (255 : Int32) < c) : ¬ c < 0 ∧ ¬ (65535 : Int32) < c := ⟨hc.1, fun z => hc.2 (Int32.lt_trans (by decide) z)⟩
end Strs
end Jvm.Own
namespace Jvm.Own
open Jvm Jvm.ClassFile Sem Op Lib Jvm.Free Jvm.Stand Jvm.LawKit Jvm.RoadKit Bundle
/-! ### String constants -/
section Ldc
variable {C : Cx} {R : Room} {own : String} {b : ByteArray} {ml : Nat} {rt : Option FieldType} {nm : String} {q : Bool} {Z : State} {a0 : Array Value} {EL : List (String × Nat)} {n0 : Nat} {vm : Vm} {T : State} {h : Heap} {k n : Nat} {Q : Option Value → Heap → (Addr → Prop) → Prop} {pc pc' pt : Nat} {Ls Ls' : Array Slot} {st : List Value}
theorem On.ldcS (X : On C R own b ml rt nm q Z a0 EL n0 vm T h k n) (hq : q = false) {ix k' n' nn : Nat} {text : String} {cs : List Int32} (hi : Ins b pc (.ldc ix) 2 pc') (w : (Cond.stringLink own ix text).before a0 Z = true) (wS : ∀ a ∈ Bundle.stringAtoms, a.before a0 Z = true) (hmem : (own, ix) ∈ EL)
    (h1 : ∀ c ∈ text.toList, c.toNat < 256) (h2 : text.toList.map (fun c => Value.int (Jvm.Lit.byteI c.toNat.toUInt16)) = cs.map fun c => Value.int c.toInt8.toInt32) (h3 : ∀ c ∈ cs, ¬ c < 0 ∧ ¬ (255 : Int32) < c) (h4 : cs.length ≤ 4000) (h5 : 4 * text.toList.length ≤ nn) (h6 : nn ≤ 536870912)
    (hk' : k + 2 = k') (hn' : n + (nn + 4) = n') (hc : k' ≤ R.cells) (hsl : n' ≤ R.slots)
    (g : ∀ vm' T' h' a t kb, On C R own b ml rt nm q Z a0 EL n0 vm' T' h' k' n' → Ext h h' → CHr Z EL vm h vm' h' → Str Z h' a t kb cs → (∀ x, Safe Z EL vm' h' x → x ≠ a ∧ x ≠ t) → Go C R q Z EL n0 Q T' pc' Ls (.ref a :: st)) : Go C R q Z EL n0 Q T pc Ls st := by
  subst hk' hn' hq
  obtain ⟨-, rfl⟩ := id hi
  obtain ⟨⟨k0, locs, S, N, hS, hk⟩, -⟩ := id X
  have hz : ¬ (Int32.ofNat cs.length) < 0 := by
    intro z
    have z1 := Int32.lt_iff_toInt_lt.mp z
    have e1 : (Int32.ofNat cs.length).toInt = cs.length := Int32.toInt_ofNat_small (by omega)
    have e2 : (0 : Int32).toInt = 0 := by decide
    omega
  have hl : (Int32.ofNat cs.length).toNatClampNeg = (cs.map fun c => Value.int c.toInt8.toInt32).length := by
    have e1 : (Int32.ofNat cs.length).toInt = cs.length := Int32.toInt_ofNat_small (by omega)
    rw [List.length_map]
    show (Int32.ofNat cs.length).toInt.toNat = _
    rw [e1]; rfl
  obtain ⟨a, T', h', k1, t, kb, S', e', E', hS', hk1, hZ', ho', A1, A2, A3, A4, -, -, hC, -, hne, st'⟩ := ldcCH S X.exec X.zw X.owned w wS X.eT hS hk X.ew hmem X.chv ⟨h1, h2⟩ hz hl (g := mkF C.m pc Ls st) rfl (X.dec hi) h5 h6 hc hsl
  refine Go.of st' (g T'.vm T' h' a t kb ?_ E' hC ⟨A1, A3, A2, A4, h3⟩ hne)
  obtain ⟨-, -, e2, e3, e4, e5, e6, e7, -, -, e10, e11, -, e13⟩ := X
  exact ⟨⟨k1, locs, S', N, hS', hk1⟩, e', e2, e3, e4, e5, e6, e7, hZ', ho', e10, e11.trans hC, (fun z => nomatch z), e13.ext E'⟩
theorem On.instNull (X : On C R own b ml rt nm q Z a0 EL n0 vm T h k n) {ix : Nat} (hi : Ins b pc (.instanceof ix) 3 pc') (g : Go C R q Z EL n0 Q T pc' Ls (.int 0 :: st)) : Go C R q Z EL n0 Q T pc Ls (.null :: st) := by
  obtain ⟨-, rfl⟩ := id hi
  obtain ⟨⟨k0, locs, S, N, hS, hk⟩, -⟩ := id X
  exact Go.of (S.instanceofNull X.exec (g := mkF C.m pc Ls (.null :: st)) rfl rfl (X.dec hi)) g
theorem On.castNull (X : On C R own b ml rt nm q Z a0 EL n0 vm T h k n) {ix : Nat} (hi : Ins b pc (.checkcast ix) 3 pc') (g : Go C R q Z EL n0 Q T pc' Ls (.null :: st)) : Go C R q Z EL n0 Q T pc Ls (.null :: st) := by
  obtain ⟨-, rfl⟩ := id hi
  obtain ⟨⟨k0, locs, S, N, hS, hk⟩, -⟩ := id X
  exact Go.of (S.checkcastNull X.exec (g := mkF C.m pc Ls (.null :: st)) rfl rfl (X.dec hi)) g
theorem On.newarrayE (X : On C R own b ml rt nm q Z a0 EL n0 vm T h k n) {aty : ArrayType} {ty : FieldType} {ad : String} {z : Int32} {cap k' n' : Nat} (hi : Ins b pc (.newarray aty) 2 pc') (hty : newarray.typeOf aty = ty) (w : (Cond.arrayClass ty).before a0 Z = true)
    (hz : ¬ z < 0) (hcap : z.toNatClampNeg ≤ cap) (hbig : cap * 8 ≤ 536870912) (hk' : k + 1 = k') (hn' : n + cap = n') (hc : k' ≤ R.cells) (hl : n' ≤ R.slots) (had : "[" ++ ty.toString = ad)
    (g : ∀ T' h' a kA, On C R own b ml rt nm q Z a0 EL n0 vm T' h' k' n' → Ext h h' → h.size = a → n0 ≤ a → Arv Z h' a kA ty z [] (defaultValue ty) → Safe Z EL vm h' a → Exa Z h' a ad → Go C R q Z EL n0 Q T' pc' Ls (.ref a :: st)) : Go C R q Z EL n0 Q T pc Ls (.int z :: st) := by
  subst hk' hn' hty
  obtain ⟨-, rfl⟩ := id hi
  obtain ⟨⟨k0, locs, S, N, hS, hk⟩, -⟩ := id X
  obtain ⟨T', h', kA, S', e', E', A', F', st'⟩ := newPE S X.exec X.zw w X.eT (g := mkF C.m pc Ls (.int z :: st)) rfl (X.dec hi) rfl hz hcap hbig hc hl had
  exact Go.of st' (g T' h' h.size kA (X.put S' N hS hk e' (CHr.ext E' X.chv) (X.old.ext E')) E' rfl X.n0le (Arv.new A' hz) ((Safe.new (Nat.le_refl _)).ext E' X.chv) F')
/-- a box of a cache -/
theorem On.aaloadB (X : On C R own b ml rt nm q Z a0 EL n0 vm T h k n) {a : Addr} {cl : Cell} {K d : String} {z j : Int32} {val : Int32 → Value} (hi : Ins b pc .aaload 1 pc') (B : Bxs Z a cl K d z val) (hin : ¬ j < 0 ∧ j < z)
    (g : ∀ e, Exa Z h e K → Go C R q Z EL n0 Q T pc' Ls (.ref e :: st)) : Go C R q Z EL n0 Q T pc Ls (.int j :: .ref a :: st) := by
  obtain ⟨-, rfl⟩ := id hi
  obtain ⟨⟨k0, locs, S, N, hS, hk⟩, -⟩ := id X
  obtain ⟨A, S2, S3, H⟩ := B
  have hb := inb_of S2 hin
  obtain ⟨e, e1, e2, -⟩ := H j hb
  have A' := A.ext X.ext0
  exact Go.of (fun t u => S.aaload X.exec (by rw [X.eT]; exact A'.1) (State.isArrayOf_alike X.zw.alike A'.2.1) rfl A'.2.2 hb e1 (g := mkF C.m pc Ls (.int j :: .ref a :: st)) rfl rfl (X.dec hi) t u) (g e (e2.ext X.ext0))
/-- an array's clone() -/
theorem On.clone (X : On C R own b ml rt nm q Z a0 EL n0 vm T h k n) {ad : String} {ix W cap k' n' : Nat} {a : Addr} {kA : ClassId} {ty : FieldType} {z : Int32} {vs : List Value} {dv : Value} (hi : Ins b pc (.invokevirtual ix) 3 pc') (w1 : (Cond.methodLink own ix ⟨ad, "clone", "()Ljava/lang/Object;"⟩).before a0 Z = true)
    (w2 : (Cond.sameMethod ad "java/lang/Object" "clone" "()Ljava/lang/Object;").before a0 Z = true) (w3 : (Cond.native ⟨"java/lang/Object", "clone", "()Ljava/lang/Object;"⟩).before a0 Z = true) (w4 : (Cond.instanceMethod ⟨"java/lang/Object", "clone", "()Ljava/lang/Object;"⟩).before a0 Z = true)
    (w5 : (Cond.selects ad ⟨ad, "clone", "()Ljava/lang/Object;"⟩ ⟨"java/lang/Object", "clone", "()Ljava/lang/Object;"⟩).before a0 Z = true) (w6 : (Cond.castable ad "java/lang/Cloneable").before a0 Z = true) (V : Arv Z h a kA ty z vs dv) (E : Exa Z h a ad) (hsz : Ls.size = ml) (hW : 0 + (st.map fun v => v.category).sum = W)
    (hf : 1 ≤ R.frames) (hl : W + 14 ≤ R.locals) (hcap : z.toNatClampNeg ≤ cap) (hk' : k + 1 = k') (hn' : n + cap = n') (hc : k' ≤ R.cells) (hsl : n' ≤ R.slots)
    (g : ∀ T' h' a', On C R own b ml rt nm q Z a0 EL n0 vm T' h' k' n' → Ext h h' → h.size = a' → n0 ≤ a' → Arv Z h' a' kA ty z vs dv → Exa Z h' a' ad → Safe Z EL vm h' a' → Go C R q Z EL n0 Q T' pc' Ls (.ref a' :: st)) : Go C R q Z EL n0 Q T pc Ls (.ref a :: st) := by
  subst hk' hn'
  obtain ⟨-, rfl⟩ := id hi
  obtain ⟨⟨k0, locs, S, N, hS, hk⟩, -, -, -, hml, -⟩ := id X
  obtain ⟨T', h', S', e', E', A', F', st'⟩ := cloneH S X.exec X.zw X.owned w1 w2 w3 w4 w5 w6 X.eT V.arh E (g := mkF C.m pc Ls (.ref a :: st)) rfl (hsz.trans hml.symm) rfl (X.dec hi) hf (W := W) (by show 2 * 0 + _ ≤ _; omega) hl hcap hc hsl
  exact Go.of st' (g T' h' h.size (X.put S' N hS hk e' (CHr.ext E' X.chv) (X.old.ext E')) E' rfl X.n0le A' F' ((Safe.new (Nat.le_refl _)).ext E' X.chv))
end Ldc
theorem own_narB (x : Int32) : nar .byte x.toInt8.toInt32 = x.toInt8.toInt32 := Value.int.inj (XT.narrow_b x)
section Starts
variable {s : State} {args : Array Value}
theorem own_eqI {a : Term} {c : Int32} (h : (Cond.eq a (.int c)).value args s none s [] = some true) : a.eval args s none [] s = some (.int c) := by
  obtain ⟨x, y, e1, e2, k1, -⟩ := cmp_v (Or.inl h)
  have e3 : y = .int c := Option.some.inj (e2.symm.trans (Term.int_eval c))
  subst e3
  cases x with
  | int z => rw [e1]; rw [gotT (Cond.eq_ints e1 (Term.int_eval c)) h]
  | _ => simp [Kin, Value.isRef] at k1
theorem own_eqR {a b : Term} {r : Addr} (h : (Cond.eq a b).value args s none s [] = some true) (hb : b.eval args s none [] s = some (.ref r)) : a.eval args s none [] s = some (.ref r) := by
  obtain ⟨x, y, e1, e2, -, k2⟩ := cmp_v (Or.inl h)
  cases e2.symm.trans hb
  have hx : x.isRef = true := k2.2
  rw [e1, gotT (eq_R e1 hb hx rfl) h]
theorem own_arrStart (hf : Fit s) {t : Term} {ty : FieldType} {a : Addr} {N : Int32} {vs : List Value} {dv : Value} (ev : t.eval args s none [] s = some (.ref a)) (ha : (Cond.arrayOf t ty).value args s none s [] = some true) (hl : (Cond.eq (.length t) (.int N)).value args s none s [] = some true) (hz : ¬ N < 0) (hN : N.toNatClampNeg = vs.length)
    (H : ∀ cl : Cell, s.heap[a]? = some cl → HasL cl 0 vs) : ∃ k, Arv s s.heap a k ty N vs dv := by
  obtain ⟨cl, A⟩ := Arr.start ev ha
  have e1 := own_eqI hl
  have e2 : s.arrayAt? a = some cl := A.fin (Vm.Alike.refl _)
  have e3 : cl.slots.size < 2 ^ 31 := by
    refine Classical.byContradiction fun q => ?_
    simp [Term.eval, ev, e2, q] at e1
  have e4 := len_f ev e2 e3
  have e5 : cl.slots.size.toInt32 = N := by
    have := e4.symm.trans e1
    simpa using this
  exact ⟨_, Arv.start hf A e3 e5 hz hN (H cl A.1)⟩
theorem own_elemAt {t : Term} {a : Addr} {j : Int32} {v : Value} {cl : Cell} (ev : t.eval args s none [] s = some (.ref a)) (he : (Term.elem t (.int j)).eval args s none [] s = some v) (hc : s.heap[a]? = some cl) : cl.slots[j.toNatClampNeg]? = some v := (elem_in he ev (Term.int_eval j) hc).2
theorem own_fldStart {t : Term} {m : Addr} {C n d : String} {v : Value} (ev : t.eval args s none [] s = some (.ref m)) (h : (Term.field t C n d).eval args s none [] s = some v) : Fld s s.heap m C n d v := Fld.start (by rw [← fld_at ev]; exact h)
end Starts
section Kinds
variable {Z : State} {a0 : Array Value}
theorem nsRoot {O K : String} {nk : Nat} (w : (Cond.noSuperclass O).before a0 Z = true) (wk : (Cond.instantiable K nk).before a0 Z = true) (hn : O ≠ K) : NS Z O K := by
  obtain ⟨c, k, h1, h2, h3, -, -⟩ := Cond.noSuperclass_spec w
  obtain ⟨t, kt, g1, -⟩ := Cond.instantiable_spec wk
  have ne := ids_ne h1 g1 hn
  refine ⟨c, t, h1, g1, fun fuel => ?_⟩
  cases fuel with
  | zero => rfl
  | succ f => simp [Vm.isSubclassAux, ne, h2, h3]
theorem nsNo {Cl K : String} {nc nk : Nat} (wc : (Cond.instantiable Cl nc).before a0 Z = true) (wk : (Cond.instantiable K nk).before a0 Z = true) (N : NS Z Cl K) (hn : Cl ≠ K) : ∃ c t, Z.vm.findClass Cl = some c ∧ Z.vm.findClass K = some t ∧ Z.vm.assignable c t = false := by
  obtain ⟨c, t, h0, g0, n3⟩ := N
  obtain ⟨c', kc, a1, a2, a3, -⟩ := Cond.instantiable_spec wc
  cases h0.symm.trans a1
  obtain ⟨t', kt, b1, b2, b3, b4, -⟩ := Cond.instantiable_spec wk
  cases g0.symm.trans b1
  have ne := ids_ne h0 g0 hn
  have b5 : kt.isInterface = false := (Bool.or_eq_false_iff.mp b4).1
  refine ⟨c, t, h0, g0, ?_⟩
  show Z.vm.assignableAux (255 + 1) c t = false
  simp [Vm.assignableAux, ne, a2, b2, a3, b3, b5, Vm.isSubclass, n3]
/-- .. and of an array class -/
theorem nsRootA {O K : String} {ty : FieldType} (w : (Cond.noSuperclass O).before a0 Z = true) (wk : (Cond.arrayClass ty).before a0 Z = true) (hK : "[" ++ ty.toString = K) (hn : O ≠ K) : NS Z O K := by
  obtain ⟨c, k, h1, h2, h3, -, -⟩ := Cond.noSuperclass_spec w
  obtain ⟨t, kt, comp, g1, -⟩ := Cond.arrayClass_spec wk
  rw [hK] at g1
  have ne := ids_ne h1 g1 hn
  refine ⟨c, t, h1, g1, fun fuel => ?_⟩
  cases fuel with
  | zero => rfl
  | succ f => simp [Vm.isSubclassAux, ne, h2, h3]
theorem nsNoA {Cl K m d o : String} {nc : Nat} {ty : FieldType} (wc : (Cond.instantiable Cl nc).before a0 Z = true) (wk : (Cond.arrayClass ty).before a0 Z = true) (hK : "[" ++ ty.toString = K) (ws : (Cond.sameMethod K o m d).before a0 Z = true) (N : NS Z Cl K) (hn : Cl ≠ K) : ∃ c t, Z.vm.findClass Cl = some c ∧ Z.vm.findClass K = some t ∧ Z.vm.assignable c t = false := by
  obtain ⟨c, t, h0, g0, n3⟩ := N
  obtain ⟨c', kc, a1, a2, a3, -⟩ := Cond.instantiable_spec wc
  cases h0.symm.trans a1
  obtain ⟨t', kt, comp, b1, b2, b3⟩ := Cond.arrayClass_spec wk
  rw [hK] at b1
  cases g0.symm.trans b1
  obtain ⟨t2, kt2, d1, d2, b5⟩ := Cond.sameMethod_class ws
  cases g0.symm.trans d1
  cases b2.symm.trans d2
  have ne := ids_ne h0 g0 hn
  refine ⟨c, t, h0, g0, ?_⟩
  show Z.vm.assignableAux (255 + 1) c t = false
  simp [Vm.assignableAux, ne, a2, b2, a3, b3, b5, Vm.isSubclass, n3]
end Kinds
end Jvm.Own
namespace Jvm.Own
open Jvm Jvm.ClassFile Sem Op Lib Jvm.Free Jvm.Stand Jvm.LawKit Jvm.RoadKit Bundle
/-! ### more calls -/
section Faces
variable {Z : State} {a0 : Array Value} {vm : Vm}
/-- a class that some selected method's class is: no interface -/
theorem nfOf {s : State} {Cl : String} {x y z : MethodName} (hZ : Z.Warmed39 vm) (w : (Cond.selects Cl x z).before a0 Z = true) (hz : z.cls = y.cls) : NotFace (s.setVm vm) y := fun r0 h0 => by
  obtain ⟨c2, r2, m2, -, -, q3, -, kP, hkP, hkPi⟩ := Cond.selects_spec (mv (s := s.setVm vm) (args := #[]) hZ w)
  have e1 := findClass_of_methodNamed q3
  have e2 := findClass_of_methodNamed h0
  rw [hz] at e1
  have e5 : m2.cls = r0.cls := Option.some.inj (e1.symm.trans e2)
  rw [e5] at hkP
  exact ⟨kP, hkP, hkPi⟩
theorem sameOf {Cl : String} {x y z : MethodName} (wd : (Cond.declares y).before a0 Z = true) (hy : y.cls ≠ "java/lang/invoke/MethodHandle" ∧ y.cls ≠ "java/lang/invoke/VarHandle") (w : (Cond.selects Cl x z).before a0 Z = true) (hz : z.cls = y.cls) : (Cond.sameMethod y.cls y.cls y.name y.desc).before a0 Z = true := by
  obtain ⟨r0, r, hn, -⟩ := Cond.declares_spec wd
  obtain ⟨c2, r2, m2, -, -, q3, -, kP, hkP, hkPi⟩ := Cond.selects_spec w
  have e1 := findClass_of_methodNamed q3
  have e2 := findClass_of_methodNamed hn
  rw [hz] at e1
  have e3 := State.methodFound?_of_named hn hy
  have e4 : Option.some m2.cls = some r0.cls := e1.symm.trans e2
  have e5 : m2.cls = r0.cls := Option.some.inj e4
  rw [e5] at hkP
  have hn' : Z.methodNamed? ⟨y.cls, y.name, y.desc⟩ = some r0 := hn
  apply Cond.before_iff.mpr
  simp [Cond.value, e2, e3, hn', hkP, hkPi]
theorem selP {Cl : String} {y : MethodName} (hy : y.cls ≠ "java/lang/invoke/MethodHandle" ∧ y.cls ≠ "java/lang/invoke/VarHandle") (w1 : (Cond.selects Cl y y).before a0 Z = true) (w2 : (Cond.instanceMethod y).before a0 Z = true) (w3 : (Cond.privateMethod y).before a0 Z = true) : (Cond.selects y.cls y y).before a0 Z = true := by
  obtain ⟨c2, r2, m2, -, -, q3, -, kP, hkP, hkPi⟩ := Cond.selects_spec w1
  obtain ⟨mk, methM, hnamed, hmethM, -, -⟩ := Cond.instanceMethod_spec w2
  obtain rfl : mk = m2 := Option.some.inj (hnamed.symm.trans q3)
  have e1 := findClass_of_methodNamed q3
  have e3 := State.methodFound?_of_named q3 hy
  have e4 : selectMethod {} Z.vm mk.cls mk = .method mk := selectMethod_private hmethM (Cond.privateMethod_at w3 mk methM q3 hmethM)
  apply Cond.before_iff.mpr
  simp [Cond.value, e1, e3, q3, e4, hkP, hkPi]
end Faces
section Calls2
variable {C : Cx} {R : Room} {own : String} {b : ByteArray} {ml : Nat} {rt : Option FieldType} {nm : String} {q : Bool} {Z : State} {a0 : Array Value} {EL : List (String × Nat)} {n0 : Nat} {vm : Vm} {T : State} {h : Heap} {k n : Nat} {Q : Option Value → Heap → (Addr → Prop) → Prop} {pc pc' pt : Nat} {Ls Ls' : Array Slot} {st : List Value}
/-- invokevirtual of a private method -/
theorem On.callP (X : On C R own b ml rt nm q Z a0 EL n0 vm T h k n) {l : Launch} (hl0 : C.l = l) {ix W k' n' : Nat} {y : MethodName} {Cl : String} {bytes : ByteArray} {maxL : Nat} {ret r : Option FieldType} {ps : List FieldType} {rm : Room} {Q' : Option Value → Heap → (Addr → Prop) → Prop} {ws : List Addr} {a : Addr} {argsL sta : List Value} (hi : Ins b pc (.invokevirtual ix) 3 pc')
    (hM : Con [] q l Z EL n0 ws y bytes maxL ret rm (.ref a :: argsL).toArray h Q') (E : Exa Z h a Cl) (w1 : (Cond.methodLink own ix y).before a0 Z = true) (w2 : (Cond.instanceMethod y).before a0 Z = true) (w5 : (Cond.selects y.cls y y).before a0 Z = true) (w6 : (Cond.privateMethod y).before a0 Z = true) (w3 : (Cond.initialized y.cls).before a0 Z = true) (w4 : (Cond.code y bytes maxL ret).before a0 Z = true) (hy : y.cls ≠ "java/lang/invoke/MethodHandle" ∧ y.cls ≠ "java/lang/invoke/VarHandle")
    (hs : ∀ x ∈ ws, Safe Z EL vm h x ∧ x < h.size) (hd : parseMethodDescriptor y.desc = some ⟨ps, r⟩) (hn : argsL.length = ps.length) (hst : sta = argsL.reverse ++ .ref a :: st) (hsz : Ls.size = ml) (hW : 0 + (st.map fun v => v.category).sum = W) (hf : rm.frames + 1 ≤ R.frames) (hl : W + (maxL + 11) + rm.locals ≤ R.locals)
    (hk' : k + rm.cells = k') (hn' : n + rm.slots = n') (hc : k' ≤ R.cells) (hsl : n' ≤ R.slots)
    (g : ∀ vm' T' h' v, On C R own b ml rt nm q Z a0 EL n0 vm' T' h' k' n' → CHr Z EL vm h vm' h' → Q' v h' (Safe Z EL vm' h') → Go C R q Z EL n0 Q T' pc' Ls (v.toList ++ st)) : Go C R q Z EL n0 Q T pc Ls sta := by
  subst hl0 hst
  obtain ⟨-, rfl⟩ := id hi
  obtain ⟨⟨k0, locs, S, N, hS, hk⟩, -, -, -, hml, -⟩ := id X
  obtain ⟨cell, hc1, hc2⟩ := E.cell
  obtain ⟨v, vm1, B, -, S', s1, s2, hp, stp⟩ := S.privateBackS X.exec (y := y) X.owned (mv (s := C.s.setVm vm) X.zw w1) (mv (s := C.s.setVm vm) X.zw w2) (mv (s := C.s.setVm vm) X.zw w5) (Cond.privateMethod_at (args := #[]) (mvP (s := C.s.setVm vm) X.zw w6)) (mv (s := C.s.setVm vm) X.zw w4) hy (backQ (W := W) hM X.zw w4 w3 hf hl X.ew X.chv hs) (g := mkF C.m pc Ls (argsL.reverse ++ .ref a :: st)) rfl (hsz.trans hml.symm) (Steps.refl _) (a := a) (by rw [X.eT]; exact hc1) hc2 (argsL := argsL) (rest := st) (lenOf hd hn) rfl (by show 2 * 0 + _ ≤ _; omega) (X.dec hi)
    (fun _ _ => ⟨rfl, X.eT, hk' ▸ hc, hn' ▸ hsl⟩)
  obtain ⟨X', r1, r2⟩ := X.after N hS hk S' s1 s2 hp hk' hn'
  exact Go.of (fun t u => stp.trans u) (g _ _ _ v X' r1 r2)
/-- invokeinterface -/
theorem On.callF (X : On C R own b ml rt nm q Z a0 EL n0 vm T h k n) {l : Launch} (hl0 : C.l = l) {ix cnt W k' n' : Nat} {y z : MethodName} {Cl : String} {bytes : ByteArray} {maxL : Nat} {ret r : Option FieldType} {ps : List FieldType} {rm : Room} {Q' : Option Value → Heap → (Addr → Prop) → Prop} {ws : List Addr} {a : Addr} {argsL sta : List Value} (hi : Ins b pc (.invokeinterface ix cnt) 5 pc')
    (hM : Con [] q l Z EL n0 ws z bytes maxL ret rm (.ref a :: argsL).toArray h Q') (E : Exa Z h a Cl) (w1 : (Cond.methodLink own ix y).before a0 Z = true) (w2 : (Cond.declares y).before a0 Z = true) (w7 : (Cond.interfaceMethod y.cls y.cls y.name y.desc).before a0 Z = true) (k7 : ((Cond.interfaceMethod y.cls y.cls y.name y.desc).onTables && (Cond.interfaceMethod y.cls y.cls y.name y.desc).keepsFace) = true) (w5 : (Cond.selects Cl y z).before a0 Z = true) (w6 : (Cond.instanceMethod z).before a0 Z = true) (w8 : (Cond.publicMethod z).before a0 Z = true) (w9 : (Cond.unhidden Cl y.name y.desc).before a0 Z = true) (w10 : (Cond.castable Cl y.cls).before a0 Z = true) (w3 : (Cond.initialized z.cls).before a0 Z = true) (w4 : (Cond.code z bytes maxL ret).before a0 Z = true) (hy : y.cls ≠ "java/lang/invoke/MethodHandle" ∧ y.cls ≠ "java/lang/invoke/VarHandle")
    (hs : ∀ x ∈ ws, Safe Z EL vm h x ∧ x < h.size) (hd : parseMethodDescriptor y.desc = some ⟨ps, r⟩) (hn : argsL.length = ps.length) (hst : sta = argsL.reverse ++ .ref a :: st) (hsz : Ls.size = ml) (hW : 0 + (st.map fun v => v.category).sum = W) (hf : rm.frames + 1 ≤ R.frames) (hl : W + (maxL + 11) + rm.locals ≤ R.locals)
    (hk' : k + rm.cells = k') (hn' : n + rm.slots = n') (hc : k' ≤ R.cells) (hsl : n' ≤ R.slots)
    (g : ∀ vm' T' h' v, On C R own b ml rt nm q Z a0 EL n0 vm' T' h' k' n' → CHr Z EL vm h vm' h' → Q' v h' (Safe Z EL vm' h') → Go C R q Z EL n0 Q T' pc' Ls (v.toList ++ st)) : Go C R q Z EL n0 Q T pc Ls sta := by
  subst hl0 hst
  obtain ⟨-, rfl⟩ := id hi
  obtain ⟨⟨k0, locs, S, N, hS, hk⟩, -, -, -, hml, -⟩ := id X
  obtain ⟨cB, kB, q1, q2, q3⟩ := isOf (s := C.s.setVm vm) X.zw X.eT E
  obtain ⟨v, vm1, B, -, S', s1, s2, hp, stp⟩ := S.interfaceBackS X.exec (xi := y) (y := z) X.owned (mv (s := C.s.setVm vm) X.zw w1) (mv (s := C.s.setVm vm) X.zw w2) (mv (s := C.s.setVm vm) X.zw w7 k7) (mv (s := C.s.setVm vm) X.zw w5) (mv (s := C.s.setVm vm) X.zw w6) (mv (s := C.s.setVm vm) X.zw w8) (mv (s := C.s.setVm vm) X.zw w9) (mv (s := C.s.setVm vm) X.zw w10) hy (backQ (W := W) hM X.zw w4 w3 hf hl X.ew X.chv hs) q1 q2 q3 (g := mkF C.m pc Ls (argsL.reverse ++ .ref a :: st)) rfl (hsz.trans hml.symm) (Steps.refl _) (argsL := argsL) (rest := st) (lenOf hd hn) rfl (by show 2 * 0 + _ ≤ _; omega) (X.dec hi)
    (fun _ _ => ⟨rfl, X.eT, hk' ▸ hc, hn' ▸ hsl⟩)
  obtain ⟨X', r1, r2⟩ := X.after N hS hk S' s1 s2 hp hk' hn'
  exact Go.of (fun t u => stp.trans u) (g _ _ _ v X' r1 r2)
/-- super.m(..) -/
theorem On.callU (X : On C R own b ml rt nm q Z a0 EL n0 vm T h k n) {l : Launch} (hl0 : C.l = l) {ix W k' n' : Nat} {y : MethodName} {Cl : String} {bytes : ByteArray} {maxL : Nat} {ret r : Option FieldType} {ps : List FieldType} {rm : Room} {Q' : Option Value → Heap → (Addr → Prop) → Prop} {ws : List Addr} {a : Addr} {argsL sta : List Value} (hi : Ins b pc (.invokespecial ix) 3 pc')
    (hM : Con [] q l Z EL n0 ws y bytes maxL ret rm (.ref a :: argsL).toArray h Q') (E : Exa Z h a Cl) (w1 : (Cond.methodLink own ix y).before a0 Z = true) (w5 : (Cond.sameMethod y.cls y.cls y.name y.desc).before a0 Z = true) (w2 : (Cond.instanceMethod y).before a0 Z = true) (w6 : (Cond.superclass own y.cls).before a0 Z = true) (hy1 : y.name ≠ "<init>") (w3 : (Cond.initialized y.cls).before a0 Z = true) (w4 : (Cond.code y bytes maxL ret).before a0 Z = true)
    (hs : ∀ x ∈ ws, Safe Z EL vm h x ∧ x < h.size) (hd : parseMethodDescriptor y.desc = some ⟨ps, r⟩) (hn : argsL.length = ps.length) (hst : sta = argsL.reverse ++ .ref a :: st) (hsz : Ls.size = ml) (hW : 0 + (st.map fun v => v.category).sum = W) (hf : rm.frames + 1 ≤ R.frames) (hl : W + (maxL + 11) + rm.locals ≤ R.locals)
    (hk' : k + rm.cells = k') (hn' : n + rm.slots = n') (hc : k' ≤ R.cells) (hsl : n' ≤ R.slots)
    (g : ∀ vm' T' h' v, On C R own b ml rt nm q Z a0 EL n0 vm' T' h' k' n' → CHr Z EL vm h vm' h' → Q' v h' (Safe Z EL vm' h') → Go C R q Z EL n0 Q T' pc' Ls (v.toList ++ st)) : Go C R q Z EL n0 Q T pc Ls sta := by
  subst hl0 hst
  obtain ⟨-, rfl⟩ := id hi
  obtain ⟨⟨k0, locs, S, N, hS, hk⟩, -, -, -, hml, -⟩ := id X
  obtain ⟨v, vm1, B, -, S', s1, s2, hp, stp⟩ := superBackS S X.exec X.zw (y := y) X.owned w1 w5 w2 w6 hy1 (backQ (W := W) hM X.zw w4 w3 hf hl X.ew X.chv hs) X.eT (RoadKit.Ins.self E) (g := mkF C.m pc Ls (argsL.reverse ++ .ref a :: st)) rfl (hsz.trans hml.symm) w4 (argsL := argsL) (rest := st) (lenOf hd hn) rfl (by show 2 * 0 + _ ≤ _; omega) (X.dec hi)
    (fun _ _ => ⟨rfl, X.eT, hk' ▸ hc, hn' ▸ hsl⟩)
  obtain ⟨X', r1, r2⟩ := X.after N hS hk S' s1 s2 hp hk' hn'
  exact Go.of (fun t u => stp.trans u) (g _ _ _ v X' r1 r2)
/-- System.arraycopy between primitive arrays of one kind -/
theorem On.arraycopy (X : On C R own b ml rt nm q Z a0 EL n0 vm T h k n) {ix W : Nat} {a d : Addr} {ka kd : ClassId} {ty : FieldType} {z z' sp dp nn : Int32} {vs vd us : List Value} {dv dd : Value} (hi : Ins b pc (.invokestatic ix) 3 pc') (w1 : (Cond.methodLink own ix Jvm.Stand.acN).before a0 Z = true) (w2 : (Cond.native Jvm.Stand.acN).before a0 Z = true) (w3 : (Cond.static Jvm.Stand.acN).before a0 Z = true) (w4 : (Cond.initialized "java/lang/System").before a0 Z = true)
    (A : Arv Z h a ka ty z vs dv) (B : Arv Z h d kd ty z' vd dd) (hty : refKind ty = false) (h1 : ¬ sp < 0) (h2 : ¬ dp < 0) (h3 : ¬ nn < 0) (h4 : sp.toNatClampNeg + nn.toNatClampNeg ≤ z.toNatClampNeg) (h5 : dp.toNatClampNeg + nn.toNatClampNeg ≤ z'.toNatClampNeg)
    (hus : us = (List.range nn.toNatClampNeg).map fun i => vs.getD (sp.toNatClampNeg + i) dv) (hl : dp.toNatClampNeg + nn.toNatClampNeg ≤ vd.length) (ge : n0 ≤ d) (Sf : Safe Z EL vm h d) (hsz : Ls.size = ml) (hf : 1 ≤ R.frames) (hW : 0 + (st.map fun v => v.category).sum = W) (hlo : W + (nativeFrameWords "java/lang/System" "arraycopy" 5 + 11) ≤ R.locals)
    (g : ∀ T' h', On C R own b ml rt nm q Z a0 EL n0 vm T' h' k n → Keep h h' [d] → Arv Z h' d kd ty z' (vd.take dp.toNatClampNeg ++ us ++ vd.drop (dp.toNatClampNeg + nn.toNatClampNeg)) dd → Go C R q Z EL n0 Q T' pc' Ls st) : Go C R q Z EL n0 Q T pc Ls (.int nn :: .int dp :: .ref d :: .int sp :: .ref a :: st) := by
  obtain ⟨-, rfl⟩ := id hi
  obtain ⟨⟨k0, locs, S, N, hS, hk⟩, -, -, -, hml, -⟩ := id X
  obtain ⟨T', h', L, S', e', N', K', V', st'⟩ := cpA S X.exec X.zw X.owned w1 w2 w3 w4 X.eT A B (Or.inl ⟨rfl, hty⟩) h1 h2 h3 h4 h5 hus hl N ge (g := mkF C.m pc Ls (.int nn :: .int dp :: .ref d :: .int sp :: .ref a :: st)) rfl (hsz.trans hml.symm) rfl (X.dec hi) hf (W := W) (by show 2 * 0 + _ ≤ _; omega) hlo
  exact Go.of st' (g T' h' (X.put S' N' hS hk e' (CHr.keep K' (sfS Sf sf0) X.chv) (X.old.keep K' (allS ge all0))) K' V')
end Calls2
end Jvm.Own
namespace Jvm.Own
open Jvm Jvm.ClassFile Sem Op Lib Jvm.Free Jvm.Stand Jvm.LawKit Jvm.RoadKit Bundle Jvm.Free.Exc
/-! ### contracts beneath which a stack trace is filled in; methods named by a subclass -/
def ConK (wl : List Jvm.Cond) (q : Bool) (l : Launch) (Z : State) (EL : List (String × Nat)) (n0 : Nat) (ws : List Addr) (y : MethodName) (bytes : ByteArray) (maxL : Nat) (ret : Option FieldType) (rm : Room) (as' : Array Value) (h : Heap) (Q : Option Value → Heap → (Addr → Prop) → Prop) : Prop :=
  MetFree l y (head1 (Cond.code y bytes maxL ret :: wl) rm) (fun a U => a = as' ∧ Z.Warmed39 U.vm ∧ U.heap = h ∧ CHv Z EL U.vm h ∧ ∀ x ∈ ws, Safe Z EL U.vm h x) (fun _ _ bl _ _ => Z.vm.FramesKnown bl)
    (fun _ U o U' => ∃ v L, o = .returned v ∧ (Q v U'.heap (Safe Z EL U'.vm U'.heap) ∧ Fr n0 L ∧ Old Z n0 U'.heap) ∧ CHr Z EL U.vm U.heap U'.vm U'.heap ∧ EndQ q U o U' L rm.cells rm.slots)
theorem Con.introK {wl : List Jvm.Cond} {q : Bool} {l : Launch} {Z : State} {a0 : Array Value} {EL : List (String × Nat)} {n0 : Nat} {ws : List Addr} {y : MethodName} {bytes : ByteArray} {maxL : Nat} {ret : Option FieldType} {rm : Room} {as' : Array Value} {h : Heap} {Q : Option Value → Heap → (Addr → Prop) → Prop} {Ls : Array Slot}
    (hp : plainFor y = true) (hEL : EW Z a0 EL) (hO : Old Z n0 h) (ef : ∀ m, entryFrame m as' maxL = mkF m 0 Ls [])
    (body : ∀ (C : Cx) (vm : Vm) (T : State), C.l = l → On C rm y.cls bytes maxL ret y.name q Z a0 EL n0 vm T h 0 0 → (∀ x ∈ ws, Safe Z EL vm h x) → ThS Z C.s.heap → Z.vm.FramesKnown C.below → Go C rm q Z EL n0 Q T 0 Ls []) : ConK wl q l Z EL n0 ws y bytes maxL ret rm as' h Q := by
  refine MetFree.of_bodySF hp hisR ?_
  intro p e s m args below meth c s₁ Bd hml0 hP hK
  obtain ⟨rfl, hZ, rfl, hC, hw⟩ := hP
  have e0 : s₁.heap = s.heap := by rw [Bd.state]; rfl
  have S0 : Stand p l e rm s m args below meth c s₁ [] 0 0 := Stand.of_body Bd
  have g := body (p, l, e, s, m, args, below, meth, c) s.vm s₁ rfl ⟨⟨0, [], S0, Fr.nil n0, (State.WarmedH.refl s).since 0, Nat.zero_le _⟩, e0, Bd.exec, Bd.bytes, hml0, Bd.returns, (name_of_methodNamed Bd.named Bd.method).1, Bd.notSynchronized, hZ, findClass_of_methodNamed Bd.named, hEL, CHr.refl hC, fun _ => State.WarmedH.refl s, hO⟩ hw (ThS.start.ext hO.2) hK
  obtain ⟨s2, o, g1, g2, g3, v, L, g4, g5, g6, g7⟩ := g
  refine ⟨s2, o, castTop (ef m) g1, g2, g3, v, L, g4, g5, g6, g7⟩
theorem backQK {q : Bool} {l : Launch} {Z : State} {a0 : Array Value} {EL : List (String × Nat)} {n0 : Nat} {ws : List Addr} {y : MethodName} {bytes : ByteArray} {maxL : Nat} {ret : Option FieldType} {rm R : Room} {as' : Array Value} {h : Heap} {Q : Option Value → Heap → (Addr → Prop) → Prop} {p : Program} {e : Env} {below : List Frame} {s : State} {args : Array Value} {vm : Vm} {len W : Nat}
    (hM : ConK [] q l Z EL n0 ws y bytes maxL ret rm as' h Q) (hZ : Z.Warmed39 vm) (wc : (Cond.code y bytes maxL ret).before a0 Z = true) (wz : (Cond.initialized y.cls).before a0 Z = true) (hf : rm.frames + 1 ≤ R.frames) (hl : W + (maxL + 11) + rm.locals ≤ R.locals) (hEL : EW Z a0 EL) (H : CHv Z EL vm h) (hs : ∀ x ∈ ws, Safe Z EL vm h x ∧ x < h.size) (hTK : vm.MethodsKnown) (hBelow : vm.FramesKnown below) :
    BackS l R p e below (s.setVm vm) args y len W (fun A a => a = as' ∧ A.U.heap = h ∧ A.cells + rm.cells ≤ R.cells ∧ A.slots + rm.slots ≤ R.slots)
      (fun A _ v B => ∃ L, (Q v B.U.heap (Safe Z EL B.U.vm B.U.heap) ∧ Fr n0 L ∧ Old Z n0 B.U.heap) ∧ B.locs = A.locs ++ L ∧ B.cells = A.cells + rm.cells ∧ B.slots = A.slots + rm.slots ∧ CHr Z EL vm h B.U.vm B.U.heap ∧ (q = true → (s.setVm vm).WarmedH B.U.vm)) :=
  BackS.of_freeWG (bytes := bytes) (maxL := maxL) (ret := ret) (E := fun _ first o t L k n => k = rm.cells ∧ n = rm.slots ∧ (∃ v, o = .returned v ∧ (Q v t.heap (Safe Z EL t.vm t.heap) ∧ Fr n0 L ∧ Old Z n0 t.heap)) ∧ CHr Z EL first.vm first.heap t.vm t.heap ∧ (q = true → first.WarmedH t.vm)) hM hf hl
    (fun m meth c A a Y hp => have hU : Z.Warmed39 A.U.vm := wtrans (s := s.setVm vm) hZ Y.warmed
      ⟨by show (Cond.and _ .tt).before a A.U = true; rw [Cond.before_and, mv hU wc]; rfl, mv hU wc, mv hU wz, hp.2.2.1, hp.2.2.2⟩)
    (fun m meth c A a g mk Y hp => ⟨hp.1, wtrans (s := s.setVm vm) hZ Y.warmed, hp.2.1, (CHv.at Y hZ hEL H).1, fun x hx => (CHv.at Y hZ hEL H).safe (hs x hx).2 (hs x hx).1⟩) (fun m meth c A a g mk Y _ hg => (known_frames Y hg hTK hBelow).2.alikeC (wtrans (s := s.setVm vm) hZ Y.warmed).alike.symm)
    (fun _ _ _ _ ⟨v, L, h1, h2, h3, h4⟩ => ⟨L, _, _, h4.1, rfl, rfl, ⟨v, h1, h2⟩, h3, fun hq => (h4.2 hq).2.1⟩)
    (fun m meth c A a g mk v t L k n Y hp _ _ ⟨e1, e2, ⟨v', e3, e4⟩, e5, e6⟩ => by
      cases e3; subst e1 e2
      refine ⟨L, e4, rfl, rfl, rfl, (CHv.at Y hZ hEL H).trans ?_, fun hq => State.WarmedH.trans (t := A.U) Y.warmed (e6 hq)⟩
      rw [← hp.2.1]; exact e5)
section CallsK
variable {C : Cx} {R : Room} {own : String} {b : ByteArray} {ml : Nat} {rt : Option FieldType} {nm : String} {q : Bool} {Z : State} {a0 : Array Value} {EL : List (String × Nat)} {n0 : Nat} {vm : Vm} {T : State} {h : Heap} {k n : Nat} {Q : Option Value → Heap → (Addr → Prop) → Prop} {pc pc' pt : Nat} {Ls Ls' : Array Slot} {st : List Value}
theorem On.callIK (X : On C R own b ml rt nm q Z a0 EL n0 vm T h k n) {l : Launch} (hl0 : C.l = l) (hKn : Z.vm.MethodsKnown) (hFK : Z.vm.FramesKnown C.below) {ix W k' n' : Nat} {y : MethodName} {bytes : ByteArray} {maxL : Nat} {r : Option FieldType} {ps : List FieldType} {rm : Room} {Q' : Option Value → Heap → (Addr → Prop) → Prop} {ws : List Addr} {a : Addr} {argsL sta : List Value} (hi : Ins b pc (.invokespecial ix) 3 pc')
    (hM : ConK [] q l Z EL n0 ws y bytes maxL none rm (.ref a :: argsL).toArray h Q') (w1 : (Cond.methodLink own ix y).before a0 Z = true) (w2 : (Cond.instanceMethod y).before a0 Z = true) (w3 : (Cond.initialized y.cls).before a0 Z = true) (w4 : (Cond.code y bytes maxL none).before a0 Z = true) (hy1 : y.name = "<init>") (hy : y.cls ≠ "java/lang/invoke/MethodHandle" ∧ y.cls ≠ "java/lang/invoke/VarHandle")
    (hs : ∀ x ∈ ws, Safe Z EL vm h x ∧ x < h.size) (hd : parseMethodDescriptor y.desc = some ⟨ps, r⟩) (hn : argsL.length = ps.length) (hst : sta = argsL.reverse ++ .ref a :: st) (hsz : Ls.size = ml) (hW : 0 + (st.map fun v => v.category).sum = W) (hf : rm.frames + 1 ≤ R.frames) (hl : W + (maxL + 11) + rm.locals ≤ R.locals)
    (hk' : k + rm.cells = k') (hn' : n + rm.slots = n') (hc : k' ≤ R.cells) (hsl : n' ≤ R.slots)
    (g : ∀ vm' T' h' v, On C R own b ml rt nm q Z a0 EL n0 vm' T' h' k' n' → CHr Z EL vm h vm' h' → Q' v h' (Safe Z EL vm' h') → Go C R q Z EL n0 Q T' pc' Ls (v.toList ++ st)) : Go C R q Z EL n0 Q T pc Ls sta := by
  subst hl0 hst
  obtain ⟨-, rfl⟩ := id hi
  obtain ⟨⟨k0, locs, S, N, hS, hk⟩, -, -, -, hml, -⟩ := id X
  obtain ⟨v, vm1, B, -, S', s1, s2, hp, stp⟩ := S.specialBackS X.exec (y := y) hy1 X.owned (mv (s := C.s.setVm vm) X.zw w1) (mv (s := C.s.setVm vm) X.zw w2) (mv (s := C.s.setVm vm) X.zw w4) hy (backQK (W := W) hM X.zw w4 w3 hf hl X.ew X.chv hs (hKn.alikeC X.zw.alike) (hFK.alikeC X.zw.alike)) (g := mkF C.m pc Ls (argsL.reverse ++ .ref a :: st)) rfl (hsz.trans hml.symm) (Steps.refl _) (a := a) (argsL := argsL) (rest := st) (lenOf hd hn) rfl (by show 2 * 0 + _ ≤ _; omega) (X.dec hi)
    (fun _ _ => ⟨rfl, X.eT, hk' ▸ hc, hn' ▸ hsl⟩)
  obtain ⟨X', r1, r2⟩ := X.after N hS hk S' s1 s2 hp hk' hn'
  exact Go.of (fun t u => stp.trans u) (g _ _ _ v X' r1 r2)
theorem On.callVK (X : On C R own b ml rt nm q Z a0 EL n0 vm T h k n) {l : Launch} (hl0 : C.l = l) (hKn : Z.vm.MethodsKnown) (hFK : Z.vm.FramesKnown C.below) {ix W k' n' : Nat} {y z : MethodName} {Cl : String} {bytes : ByteArray} {maxL : Nat} {ret r : Option FieldType} {ps : List FieldType} {rm : Room} {Q' : Option Value → Heap → (Addr → Prop) → Prop} {ws : List Addr} {a : Addr} {argsL sta : List Value} (hi : Ins b pc (.invokevirtual ix) 3 pc')
    (hM : ConK [] q l Z EL n0 ws z bytes maxL ret rm (.ref a :: argsL).toArray h Q') (E : Exa Z h a Cl) (w1 : (Cond.methodLink own ix y).before a0 Z = true) (w2 : (Cond.declares y).before a0 Z = true) (w5 : (Cond.selects Cl y z).before a0 Z = true) (hnf : NotFace (C.s.setVm vm) y) (w6 : (Cond.instanceMethod z).before a0 Z = true) (w3 : (Cond.initialized z.cls).before a0 Z = true) (w4 : (Cond.code z bytes maxL ret).before a0 Z = true) (hy : y.cls ≠ "java/lang/invoke/MethodHandle" ∧ y.cls ≠ "java/lang/invoke/VarHandle")
    (hs : ∀ x ∈ ws, Safe Z EL vm h x ∧ x < h.size) (hd : parseMethodDescriptor y.desc = some ⟨ps, r⟩) (hn : argsL.length = ps.length) (hst : sta = argsL.reverse ++ .ref a :: st) (hsz : Ls.size = ml) (hW : 0 + (st.map fun v => v.category).sum = W) (hf : rm.frames + 1 ≤ R.frames) (hl : W + (maxL + 11) + rm.locals ≤ R.locals)
    (hk' : k + rm.cells = k') (hn' : n + rm.slots = n') (hc : k' ≤ R.cells) (hsl : n' ≤ R.slots)
    (g : ∀ vm' T' h' v, On C R own b ml rt nm q Z a0 EL n0 vm' T' h' k' n' → CHr Z EL vm h vm' h' → Q' v h' (Safe Z EL vm' h') → Go C R q Z EL n0 Q T' pc' Ls (v.toList ++ st)) : Go C R q Z EL n0 Q T pc Ls sta := by
  subst hl0 hst
  obtain ⟨-, rfl⟩ := id hi
  obtain ⟨⟨k0, locs, S, N, hS, hk⟩, -, -, -, hml, -⟩ := id X
  obtain ⟨cB, kB, q1, q2, q3⟩ := isOf (s := C.s.setVm vm) X.zw X.eT E
  obtain ⟨v, vm1, B, -, S', s1, s2, hp, stp⟩ := S.virtualBackS X.exec (y := y) (z := z) X.owned (mv (s := C.s.setVm vm) X.zw w1) (mv (s := C.s.setVm vm) X.zw w2) hnf (mv (s := C.s.setVm vm) X.zw w5) (mv (s := C.s.setVm vm) X.zw w6) hy (backQK (W := W) hM X.zw w4 w3 hf hl X.ew X.chv hs (hKn.alikeC X.zw.alike) (hFK.alikeC X.zw.alike)) q1 q3 (g := mkF C.m pc Ls (argsL.reverse ++ .ref a :: st)) rfl (hsz.trans hml.symm) (Steps.refl _) (argsL := argsL) (rest := st) (lenOf hd hn) rfl (by show 2 * 0 + _ ≤ _; omega) (X.dec hi)
    (fun _ _ => ⟨rfl, X.eT, hk' ▸ hc, hn' ▸ hsl⟩)
  obtain ⟨X', r1, r2⟩ := X.after N hS hk S' s1 s2 hp hk' hn'
  exact Go.of (fun t u => stp.trans u) (g _ _ _ v X' r1 r2)
theorem On.callVU (X : On C R own b ml rt nm q Z a0 EL n0 vm T h k n) {l : Launch} (hl0 : C.l = l) {ix W k' n' : Nat} {y z : MethodName} {Cl : String} {bytes : ByteArray} {maxL : Nat} {ret r : Option FieldType} {ps : List FieldType} {rm : Room} {Q' : Option Value → Heap → (Addr → Prop) → Prop} {ws : List Addr} {a : Addr} {argsL sta : List Value} (hi : Ins b pc (.invokevirtual ix) 3 pc')
    (hM : Con [] q l Z EL n0 ws z bytes maxL ret rm (.ref a :: argsL).toArray h Q') (E : Exa Z h a Cl) (w1 : (Cond.methodLink own ix y).before a0 Z = true) {ow : String} (w2 : (Cond.declares ⟨ow, y.name, y.desc⟩).before a0 Z = true) (w8 : (Cond.sameMethod y.cls ow y.name y.desc).before a0 Z = true) (w8k : ((Cond.sameMethod y.cls ow y.name y.desc).onTables && (Cond.sameMethod y.cls ow y.name y.desc).keepsFace) = true) (w5 : (Cond.selects Cl y z).before a0 Z = true) (w6 : (Cond.instanceMethod z).before a0 Z = true) (w3 : (Cond.initialized z.cls).before a0 Z = true) (w4 : (Cond.code z bytes maxL ret).before a0 Z = true) (hy : ow ≠ "java/lang/invoke/MethodHandle" ∧ ow ≠ "java/lang/invoke/VarHandle")
    (hs : ∀ x ∈ ws, Safe Z EL vm h x ∧ x < h.size) (hd : parseMethodDescriptor y.desc = some ⟨ps, r⟩) (hn : argsL.length = ps.length) (hst : sta = argsL.reverse ++ .ref a :: st) (hsz : Ls.size = ml) (hW : 0 + (st.map fun v => v.category).sum = W) (hf : rm.frames + 1 ≤ R.frames) (hl : W + (maxL + 11) + rm.locals ≤ R.locals)
    (hk' : k + rm.cells = k') (hn' : n + rm.slots = n') (hc : k' ≤ R.cells) (hsl : n' ≤ R.slots)
    (g : ∀ vm' T' h' v, On C R own b ml rt nm q Z a0 EL n0 vm' T' h' k' n' → CHr Z EL vm h vm' h' → Q' v h' (Safe Z EL vm' h') → Go C R q Z EL n0 Q T' pc' Ls (v.toList ++ st)) : Go C R q Z EL n0 Q T pc Ls sta := by
  subst hl0 hst
  obtain ⟨-, rfl⟩ := id hi
  obtain ⟨⟨k0, locs, S, N, hS, hk⟩, -, -, -, hml, -⟩ := id X
  obtain ⟨cB, kB, q1, q2, q3⟩ := isOf (s := C.s.setVm vm) X.zw X.eT E
  obtain ⟨v, vm1, B, -, S', s1, s2, hp, stp⟩ := S.virtualBackUpS X.exec (x := y) (y := z) (owner := ow) X.owned (mv (s := C.s.setVm vm) X.zw w1) (mv (s := C.s.setVm vm) X.zw w8 w8k) (mv (s := C.s.setVm vm) X.zw w2) hy (mv (s := C.s.setVm vm) X.zw w5) (mv (s := C.s.setVm vm) X.zw w6) (backQ (W := W) hM X.zw w4 w3 hf hl X.ew X.chv hs) q1 q3 (g := mkF C.m pc Ls (argsL.reverse ++ .ref a :: st)) rfl (hsz.trans hml.symm) (Steps.refl _) (argsL := argsL) (rest := st) (lenOf hd hn) rfl (by show 2 * 0 + _ ≤ _; omega) (X.dec hi)
    (fun _ _ => ⟨rfl, X.eT, hk' ▸ hc, hn' ▸ hsl⟩)
  obtain ⟨X', r1, r2⟩ := X.after N hS hk S' s1 s2 hp hk' hn'
  exact Go.of (fun t u => stp.trans u) (g _ _ _ v X' r1 r2)
theorem On.backVU (X : On C R own b ml rt nm q Z a0 EL n0 vm T h k n) {ix W k' n' kc ks : Nat} {y z : MethodName} {Cl : String} {r : Option FieldType} {ps : List FieldType} {QQ : Option Value → Heap → List Loc → Prop} {a : Addr} {argsL sta : List Value} (hi : Ins b pc (.invokevirtual ix) 3 pc')
    (hK : Back C.l R C.p C.e C.below (C.s.setVm vm) C.args z 3 W (fun P a' => a' = (.ref a :: argsL).toArray ∧ P.U.heap = h ∧ P.cells + kc ≤ R.cells ∧ P.slots + ks ≤ R.slots) (fun P _ v B => ∃ L, QQ v B.U.heap L ∧ B.locs = P.locs ++ L ∧ B.cells = P.cells + kc ∧ B.slots = P.slots + ks))
    (hQ : ∀ v h' L, QQ v h' L → Fr n0 L ∧ CHr Z EL vm h vm h' ∧ Old Z n0 h') (E : Exa Z h a Cl) (w1 : (Cond.methodLink own ix y).before a0 Z = true) {ow : String} (w2 : (Cond.declares ⟨ow, y.name, y.desc⟩).before a0 Z = true) (w8 : (Cond.sameMethod y.cls ow y.name y.desc).before a0 Z = true) (w8k : ((Cond.sameMethod y.cls ow y.name y.desc).onTables && (Cond.sameMethod y.cls ow y.name y.desc).keepsFace) = true) (w5 : (Cond.selects Cl y z).before a0 Z = true) (w6 : (Cond.instanceMethod z).before a0 Z = true) (hy : ow ≠ "java/lang/invoke/MethodHandle" ∧ ow ≠ "java/lang/invoke/VarHandle")
    (hd : parseMethodDescriptor y.desc = some ⟨ps, r⟩) (hn : argsL.length = ps.length) (hst : sta = argsL.reverse ++ .ref a :: st) (hsz : Ls.size = ml) (hW : 0 + (st.map fun v => v.category).sum = W)
    (hk' : k + kc = k') (hn' : n + ks = n') (hc : k' ≤ R.cells) (hsl : n' ≤ R.slots)
    (g : ∀ T' h' v L, On C R own b ml rt nm q Z a0 EL n0 vm T' h' k' n' → QQ v h' L → Go C R q Z EL n0 Q T' pc' Ls (v.toList ++ st)) : Go C R q Z EL n0 Q T pc Ls sta := by
  subst hst hk' hn'
  obtain ⟨-, rfl⟩ := id hi
  obtain ⟨⟨k0, locs, S, N, hS, hk⟩, -, -, -, hml, -⟩ := id X
  obtain ⟨cB, kB, q1, q2, q3⟩ := isOf (s := C.s.setVm vm) X.zw X.eT E
  obtain ⟨v, vm1, B, -, S', hp, stp⟩ := S.virtualBackUp X.exec (x := y) (y := z) (owner := ow) X.owned (mv (s := C.s.setVm vm) X.zw w1) (mv (s := C.s.setVm vm) X.zw w8 w8k) (mv (s := C.s.setVm vm) X.zw w2) hy (mv (s := C.s.setVm vm) X.zw w5) (mv (s := C.s.setVm vm) X.zw w6) hK q1 q3 (g := mkF C.m pc Ls (argsL.reverse ++ .ref a :: st)) rfl (hsz.trans hml.symm) (Steps.refl _) (argsL := argsL) (rest := st) (lenOf hd hn) rfl (by show 2 * 0 + _ ≤ _; omega) (X.dec hi)
    (fun _ _ => ⟨rfl, X.eT, hc, hsl⟩)
  obtain ⟨L, r1, r2, r3, r4⟩ := hp
  rw [r2, r3, r4] at S'
  obtain ⟨f1, f2, f3⟩ := hQ v _ L r1
  exact Go.of (fun t u => stp.trans u) (g _ _ v L (X.put S' (N.app f1) hS hk rfl f2 f3) r1)
/-- the constructor (String) of an exception, through links that only pass on -/
theorem On.exc1 (X : On C R own b ml rt nm q Z a0 EL n0 vm T h k n) (hst : C.l.stackTraces = true) {rc : String} {links : List Jvm.Free.Exc.Link} {ic nf W k' n' : Nat} {a : Addr} {msg : Value} (hi : Ins b pc (.invokespecial ic) 3 pc') (hok : linksOk 1 links = true)
    (w1 : (Cond.methodLink own ic (ctor 1 (headName links))).before a0 Z = true) (w2 : (Cond.instanceMethod (ctor 1 (headName links))).before a0 Z = true) (wT : (chainTab 1 rc links).before a0 Z = true) (wi : (Cond.instantiable rc nf).before a0 Z = true) (r : ∀ d ∈ twoRefs, d.before a0 Z = true)
    (hT0 : ThS Z C.s.heap) (hKn : Z.vm.MethodsKnown) (hFK : Z.vm.FramesKnown C.below) (E : Exa Z h a rc) (N : Unt h a) (B : Fld Z h a tN "backtrace" obD .null) (B2 : Fld Z h a tN "detailMessage" msgD .null) (hmsg : msg.isRef = true) (ga : n0 ≤ a) (Sf : Safe Z EL vm h a)
    (hsz : Ls.size = ml) (hW : 0 + (st.map fun v => v.category).sum = W) (hf : 4 + links.length ≤ R.frames) (hlo : W + (56 + 14 * links.length) ≤ R.locals) (hk' : k + 1 = k') (hn' : n + 2752 = n') (hc : k' ≤ R.cells) (hsl : n' ≤ R.slots)
    (g : ∀ T' h', On C R own b ml rt nm q Z a0 EL n0 vm T' h' k' n' → Keep h h' [a] → Exa Z h' a rc → Unt h' a → Fld Z h' a tN "detailMessage" msgD msg → Fld Z h' a tN "cause" thD (.ref a) → Go C R q Z EL n0 Q T' pc' Ls st) : Go C R q Z EL n0 Q T pc Ls (msg :: .ref a :: st) := by
  subst hk' hn'
  obtain ⟨-, rfl⟩ := id hi
  obtain ⟨⟨k0, locs, S, N0, hS, hk⟩, -, -, -, hml, -⟩ := id X
  obtain ⟨T', h', S', e', K', E', U', F1, F2, -, st'⟩ := excL1 S X.exec hst X.zw X.owned hok w1 w2 wT wi r hT0 (ThS.start.ext X.ext0) (hKn.alikeC X.zw.alike) (hFK.alikeC X.zw.alike) X.eT E N B B2 hmsg (g := mkF C.m pc Ls (msg :: .ref a :: st)) rfl (hsz.trans hml.symm) rfl (X.dec hi) hf (by show 2 * 0 + _ + _ ≤ _; omega) hc hsl
  have K := keep_of_kp K'
  exact Go.of st' (g T' h' (X.put S' (Fr.six N0 ga) hS hk e' (CHr.keep K (sfS Sf sf0) X.chv) (X.old.keep K (allS ga all0))) K E' U' F1 F2)
/-- Throwable.getCause of an exception that has none -/
theorem On.getCause (X : On C R own b ml rt nm q Z a0 EL n0 vm T h k n) {ix W : Nat} {Cl : String} {a : Addr} {y : MethodName} (hi : Ins b pc (.invokevirtual ix) 3 pc') (E : Exa Z h a Cl) (N : Unt h a) (F : Fld Z h a tN "cause" thD (.ref a))
    (hyn : y.name = RoadKit.gcN.name) (hyd : y.desc = RoadKit.gcN.desc) (w1 : (Cond.methodLink own ix y).before a0 Z = true) (w2 : (Cond.declares ⟨tN, y.name, y.desc⟩).before a0 Z = true) (w8 : (Cond.sameMethod y.cls tN y.name y.desc).before a0 Z = true) (w8k : ((Cond.sameMethod y.cls tN y.name y.desc).onTables && (Cond.sameMethod y.cls tN y.name y.desc).keepsFace) = true) (w5 : (Cond.selects Cl y RoadKit.gcN).before a0 Z = true) (w6 : (Cond.instanceMethod RoadKit.gcN).before a0 Z = true)
    (wc : (Cond.codeSync RoadKit.gcN RoadKit.gcB 1 (some (.object tN))).before a0 Z = true) (wz : (Cond.initialized tN).before a0 Z = true) (wf : (Cond.fieldLink tN 7 tN "cause" thD).before a0 Z = true)
    (hsz : Ls.size = ml) (hW : 0 + (st.map fun v => v.category).sum = W) (hfr : 1 ≤ R.frames) (hlo : W + 12 ≤ R.locals) (hc : k ≤ R.cells) (hsl : n ≤ R.slots)
    (g : ∀ T', On C R own b ml rt nm q Z a0 EL n0 vm T' h k n → Go C R q Z EL n0 Q T' pc' Ls (.null :: st)) : Go C R q Z EL n0 Q T pc Ls (.ref a :: st) := by
  have hd : parseMethodDescriptor RoadKit.gcN.desc = some ⟨[], some (.object tN)⟩ := by decide +kernel
  refine X.backVU (W := W) (a := a) (argsL := []) (ow := tN) (QQ := fun v h' L => v = some .null ∧ L = [] ∧ h' = h) (kc := 0) (ks := 0) hi ?_ (fun v h' L hq => ⟨by rw [hq.2.1]; exact Fr.nil _, by rw [hq.2.2]; exact CHr.refl X.chv, by rw [hq.2.2]; exact X.old⟩) E w1 w2 w8 w8k w5 w6 (by decide) (by rw [hyd]; exact hd) rfl rfl hsz hW rfl rfl hc hsl ?_
  · have q := gcBackPure (rm := ({ frames := 0, cells := 0, slots := 0, locals := 0 } : Room)) (len := 3) (W := W) (l := C.l) (R := R) (p := C.p) (e := C.e) (below := C.below) (s := C.s.setVm vm) (args := C.args) X.zw wc w6 wz wf N F rfl (by show 0 + 1 ≤ _; omega) (by show W + (1 + 11) + 0 ≤ _; omega)
    rw [gcv_self] at q
    intro m meth c A g ig mk a' X1 hg hsize hdg hW1 hn hp
    obtain ⟨v, B, x1, x2, x3⟩ := q m meth c A g ig mk a' X1 hg hsize hdg hW1 hn hp
    exact ⟨v, B, x1, ⟨[], ⟨x2.1, rfl, x2.2.1⟩, by rw [x2.2.2.1, List.append_nil], x2.2.2.2.1, x2.2.2.2.2⟩, x3⟩
  · rintro T' h' v L X' ⟨rfl, -, rfl⟩
    exact g T' X'
end CallsK
end Jvm.Own
namespace Jvm.Own
open Jvm Jvm.ClassFile Sem Op Lib Jvm.Free Jvm.Stand Jvm.LawKit Jvm.RoadKit Bundle Jvm.Free.Exc LibCode.Throwable
/-! ### Throwable.fillInStackTrace on an object whose own class lays Throwable's fields: the library's fillPays, where the sheet doesn't say how Throwable herself lays suppressedExceptions -/
def thrWords (rc : String) : List Cond := [.native tFill0, .initialized tN, .superclass tN "java/lang/Object", .instanceMethod tFill, .codeSync tFill Fill.code 1 (some (.object tN)), .instanceMethod tFill0, .instanceMethod oInit, .code oInit ⟨#[0xb1]⟩ 1 none,
  .methodLink tN 1 oInit, .methodLink tN 27 tFill, .methodLink tN 202 tFill0, .fieldLink tN 7 tN "cause" thD, .fieldLink tN 17 tN "stackTrace" steD, .fieldLink tN 24 tN "suppressedExceptions" listD, .fieldLink tN 13 tN "UNASSIGNED_STACK" steD, .laysStatic tN "UNASSIGNED_STACK" steD,
  .fieldLink tN 20 tN "SUPPRESSED_SENTINEL" listD, .laysStatic tN "SUPPRESSED_SENTINEL" listD, .fieldLink tN 198 tN "backtrace" obD, .lays rc tN "cause" thD, .lays rc tN "stackTrace" steD, .lays rc tN "suppressedExceptions" listD, .lays rc tN "detailMessage" msgD, .lays rc tN "backtrace" obD, .lays rc tN "depth" "I",
  .declares tFill, .selects rc tFill0 tFill0, .selects rc tFill tFill, .arrayOver (.object "java/lang/Object"), .soleField tN "backtrace", .soleField tN "depth"]
theorem thr_ok {rc : String} : (thrWords rc).all xOk = true := rfl
/-- the bundle that fillPays asks, out of those words -/
theorem own_thr {args : Array Value} {s : State} {pl : Platform} {rc : String} (howns : pl.frameOwnsMonitors = true) (hfin : pl.finalization = false) (hpl : pl.magicAccessors = ({} : Platform).magicAccessors) (h : ∀ c ∈ thrWords rc, c.before args s = true) :
    ∃ T : ThrowableC, T.Links pl s ∧ s.vm.findClass tN = some T.cT ∧ s.methodNamed? tFill = some T.fill ∧ s.methodNamed? tFill0 = some T.fill0 ∧ s.fieldFound? tN "stackTrace" steD = some (T.cT, T.kT, T.i17, T.fStack) ∧ s.fieldFound? tN "UNASSIGNED_STACK" steD = some (T.cT, T.kT, T.i13, T.fUnassigned) := by
  have w : ∀ c, c ∈ thrWords rc → c.holds args s none s [] = true := fun c hc => h c hc
  -- the class
  obtain ⟨⟨c, i0⟩, m0, n0, g0, na0, co0, lo0, si0⟩ := Cond.native_spec (w (.native tFill0) (by simp [thrWords]))
  have fc : s.vm.findClass tN = some c := findClass_of_methodNamed n0
  obtain ⟨k, kc, kn⟩ := Vm.findClass_spec fc
  obtain ⟨_, k1, _, _, kc1, _, _, _, _, ni⟩ := Cond.superclass_spec fc (w (.superclass tN "java/lang/Object") (by simp [thrWords]))
  obtain rfl : k = k1 := Option.some.inj (kc.symm.trans kc1)
  -- the receiver's class
  obtain ⟨cR, kR, _, _, _, _, fR, kcR, _⟩ := Cond.lays_spec (w (.lays rc tN "cause" thD) (by simp [thrWords]))
  -- the two methods
  obtain ⟨iF, mF, nF, gF, atF, sF, aF, -, -⟩ := Cond.ownMethod (x := tFill) fc kc (w (.instanceMethod tFill) (by simp [thrWords]))
  obtain ⟨mF', cF, gF', coF, byF, laF, reF, lkF, -, siF⟩ := Cond.codeSync_spec nF (w (.codeSync tFill Fill.code 1 (some (.object tN))) (by simp [thrWords]))
  obtain rfl : mF = mF' := Option.some.inj (gF.symm.trans gF')
  obtain ⟨i0', m0', n0', g0', at0, s0, a0, nm0, ds0⟩ := Cond.ownMethod (x := tFill0) fc kc (w (.instanceMethod tFill0) (by simp [thrWords]))
  obtain rfl : i0 = i0' := by have := Option.some.inj (n0.symm.trans n0'); simpa using this
  obtain rfl : m0 = m0' := Option.some.inj (g0.symm.trans g0')
  -- Object's constructor
  obtain ⟨mO, tO, nO, gO, sO, aO⟩ := Cond.instanceMethod_spec (w (.instanceMethod oInit) (by simp [thrWords]))
  obtain ⟨tO', cO, gO', coO, byO, laO, -, lkO, -, siO⟩ := Cond.code_spec nO (w (.code oInit ⟨#[0xb1]⟩ 1 none) (by simp [thrWords]))
  obtain rfl : tO = tO' := Option.some.inj (gO.symm.trans gO')
  obtain ⟨kO, kcO, knO⟩ := Vm.findClass_spec (findClass_of_methodNamed nO)
  obtain ⟨nmO, dsO⟩ := name_of_methodNamed nO gO
  -- the entries
  obtain ⟨u1, v1, cf, l1, r1, hcf, p1⟩ := Cond.linkedMethod fc kc nO (w (.methodLink tN 1 oInit) (by simp [thrWords])) pl hpl
  obtain ⟨u27, v27, cf2, l27, r27, hcf2, p27⟩ := Cond.linkedMethod fc kc nF (w (.methodLink tN 27 tFill) (by simp [thrWords])) pl hpl
  obtain ⟨u202, v202, cf3, l202, r202, hcf3, p202⟩ := Cond.linkedMethod fc kc n0 (w (.methodLink tN 202 tFill0) (by simp [thrWords])) pl hpl
  obtain rfl : cf = cf2 := Option.some.inj (hcf.symm.trans hcf2)
  obtain rfl : cf = cf3 := Option.some.inj (hcf.symm.trans hcf3)
  -- the fields: each as the receiver's class lays it
  obtain ⟨u7, j7, f7, l7, r7, t7, s7, z7, -, -, -⟩ := Cond.ownField (t := .object tN) fc kc (by decide +kernel) (w (.fieldLink tN 7 tN "cause" thD) (by simp [thrWords])) (w (.lays rc tN "cause" thD) (by simp [thrWords])) pl hpl
  obtain ⟨u17, j17, f17, l17, r17, t17, s17, z17, q17, -, ff17⟩ := Cond.ownField (t := .array (.object "java/lang/StackTraceElement")) fc kc (by decide +kernel) (w (.fieldLink tN 17 tN "stackTrace" steD) (by simp [thrWords])) (w (.lays rc tN "stackTrace" steD) (by simp [thrWords])) pl hpl
  obtain ⟨u24, j24, f24, l24, r24, t24, s24, z24, q24, -, ff24⟩ := Cond.ownField (t := .object "java/util/List") fc kc (by decide +kernel) (w (.fieldLink tN 24 tN "suppressedExceptions" listD) (by simp [thrWords])) (w (.lays rc tN "suppressedExceptions" listD) (by simp [thrWords])) pl hpl
  obtain ⟨u13, j13, f13, aS, cS, l13, r13, t13, s13, -, -, st13, -, -, -, -, ff13⟩ := Cond.ownStatic (t := .array (.object "java/lang/StackTraceElement")) fc kc (by decide +kernel) (w (.fieldLink tN 13 tN "UNASSIGNED_STACK" steD) (by simp [thrWords])) (w (.laysStatic tN "UNASSIGNED_STACK" steD) (by simp [thrWords])) pl hpl
  obtain ⟨u20, j20, f20, _, _, l20, r20, t20, s20, -⟩ := Cond.ownStatic (t := .object "java/util/List") fc kc (by decide +kernel) (w (.fieldLink tN 20 tN "SUPPRESSED_SENTINEL" listD) (by simp [thrWords])) (w (.laysStatic tN "SUPPRESSED_SENTINEL" listD) (by simp [thrWords])) pl hpl
  obtain ⟨_, _, _, _, _, fM, _, _, _, sM, zM, _⟩ := Cond.lays_spec (w (.lays rc tN "detailMessage" msgD) (by simp [thrWords]))
  obtain ⟨-, d17, e17, e17n⟩ := Cond.laysAt fR kcR ff17 (w (.lays rc tN "stackTrace" steD) (by simp [thrWords]))
  obtain ⟨-, d24, e24, e24n⟩ := Cond.laysAt fR kcR ff24 (w (.lays rc tN "suppressedExceptions" listD) (by simp [thrWords]))
  have apart := Cond.laysApart e17 e24 e17n e24n (by rw [q17, q24]; decide)
  have par : ∀ {d : String} {m : Method} {L : List FieldType}, parseMethodDescriptor d = some m.sig → (parseMethodDescriptor d).map (·.parameters) = some L → m.sig.parameters = L := fun h1 h2 => by rw [h1] at h2; simpa using h2
  exact ⟨{ cT := c, kT := k, cO := c, aS := aS, fillIdx := iF, fill0Idx := i0, initSIdx := iF, obj := mO, kObj := kO, methFill := mF, methFill0 := m0, methInitS := mF, methObj := tO, codeFill := cF, codeInitS := cF, codeObj := cO, fBack := f7, fDepth := f7, fStack := f17, fCause := f7, fSupp := f24, fMsg := fM, fUnassigned := f13, fSentinel := f20, cfT := cf, ci1 := u1, n1 := v1, ci27 := u27, n27 := v27, ci202 := u202, n202 := v202, ci7 := u7, i7 := j7, ci13 := u13, i13 := j13, ci17 := u17, i17 := j17, ci20 := u20, i20 := j20, ci24 := u24, i24 := j24 },
    { owns := howns, noFinalization := hfin, cls := kc, name := kn, boot := Vm.findClass_boot fc kc, notInterface := ni, initialized := Cond.initialized_spec fc kc (w (.initialized tN) (by simp [thrWords])), statics := st13
      fillAt := atF, fillCode := coF, fillBytes := byF, fillLocals := laF, fillLocks := lkF, fillStatic := sF, fillAbstract := aF, fillReturns := reF, fillParams := par siF (by decide +kernel)
      fill0At := at0, fill0Name := nm0, fill0Desc := ds0, fill0Params := par si0 (by decide +kernel), fill0Static := s0, fill0Native := na0, fill0Code := co0, fill0Locks := lo0, fill0Abstract := a0
      stackInstance := s17, stackNotFinal := z17, unassignedStatic := s13, objClass := kcO, objClassName := knO, objMethod := gO, objName := nmO, objStatic := sO, objAbstract := aO, objFound := by rw [dsO]; exact lookupSpecial_of_named nO gO sO
      objParams := by rw [par siO (L := []) (by decide +kernel)]; rfl
      objCode := coO, objBytes := byO, objLocks := lkO, causeInstance := s7, causeNotFinal := z7, sentinelStatic := s20, suppInstance := s24, suppNotFinal := z24, msgInstance := sM, msgNotFinal := zM, stackApartSupp := apart
      file := hcf, mlink1 := l1, mright1 := r1, pool1 := p1, mlink27 := l27, mright27 := r27, pool27 := p27, mlink202 := l202, mright202 := r202, pool202 := p202, link7 := l7, right7 := r7, at7 := t7, link13 := l13, right13 := r13, at13 := t13, link17 := l17, right17 := r17, at17 := t17, link20 := l20, right20 := r20, at20 := t20, link24 := l24, right24 := r24, at24 := t24 }, fc, nF, n0, ff17, ff13⟩
/-- a field that Z finds, found at s too, the same field and the same statics -/
theorem own_found {Z s : State} (hZ : Z.vm.Alike s.vm) {O f d : String} {c i : Nat} {k : Class} {fl : Field} (h : Z.fieldFound? O f d = some (c, k, i, fl)) {c' i' : Nat} {k' : Class} {fl' : Field} (h' : s.fieldFound? O f d = some (c', k', i', fl')) : fl' = fl ∧ k'.statics = k.statics := by
  obtain ⟨k2, hi', hek⟩ := State.fieldFound?_setVm hZ h
  have e : s.fieldFound? O f d = some (c, k2, i, fl) := hi'
  have e2 := Option.some.inj (e.symm.trans h')
  simp only [Prod.mk.injEq] at e2
  obtain ⟨-, rfl, -, rfl⟩ := e2
  exact ⟨rfl, by rw [hek]⟩
section Fill
variable {C : Cx} {R : Room} {b : ByteArray} {ml : Nat} {rt : Option FieldType} {nm : String} {q : Bool} {Z : State} {a0 : Array Value} {EL : List (String × Nat)} {n0 : Nat} {vm : Vm} {T : State} {h : Heap} {k n : Nat} {Q : Option Value → Heap → (Addr → Prop) → Prop} {pc pc' pt : Nat} {Ls Ls' : Array Slot} {st : List Value}
theorem On.fill (X : On C R tN b ml rt nm q Z a0 EL n0 vm T h k n) (hst : C.l.stackTraces = true) {rc : String} {nf k' n' W : Nat} {a u : Addr} (hi : Ins b pc (.invokevirtual 27) 3 pc') (Wd : ∀ d ∈ thrWords rc, d.before a0 Z = true) (wi : (Cond.instantiable rc nf).before a0 Z = true)
    (hT0 : ThS Z C.s.heap) (hKn : Z.vm.MethodsKnown) (hFK : Z.vm.FramesKnown C.below) (E : Exa Z h a rc) (N : Unt h a) (FS : Fld Z h a tN "stackTrace" steD (.ref u)) (FB : Fld Z h a tN "backtrace" obD .null) (SU : Sta Z Z.heap tN "UNASSIGNED_STACK" steD (.ref u)) (ga : n0 ≤ a) (Sf : Safe Z EL vm h a)
    (hsz : Ls.size = ml) (hW : 0 + (st.map fun v => v.category).sum = W) (hf : 3 ≤ R.frames) (hlo : W + 42 ≤ R.locals) (hk' : k + 1 = k') (hn' : n + 2752 = n') (hc : k' ≤ R.cells) (hsl : n' ≤ R.slots)
    (g : ∀ T' h1 h2 h3 h' bt dn, On C R tN b ml rt nm q Z a0 EL n0 vm T' h' k' n' → Ext h h1 → Wr h1 h2 a (RoadKit.slotOf Z tN "backtrace" obD) (.ref bt) → Wr h2 h3 a (RoadKit.slotOf Z tN "depth" "I") (.int dn) → Wr h3 h' a (RoadKit.slotOf Z tN "stackTrace" steD) (.ref u) → Go C R q Z EL n0 Q T' pc' Ls (.ref a :: st)) : Go C R q Z EL n0 Q T pc Ls (.ref a :: st) := by
  subst hk' hn'
  obtain ⟨-, rfl⟩ := id hi
  obtain ⟨⟨k0, locs, S, N0, hS, hk⟩, -, -, -, hml, -⟩ := id X
  have hal : Z.vm.Alike (C.s.setVm vm).vm := X.zw.alike
  have hs : ∀ d ∈ thrWords rc, d.before C.args (C.s.setVm vm) = true := fun d hd => mvX (s := C.s.setVm vm) hT0 X.zw (List.all_eq_true.mp thr_ok d hd) (Wd d hd)
  have hs' : ∀ d, d ∈ thrWords rc → d.holds C.args (C.s.setVm vm) none (C.s.setVm vm) [] = true := fun d hd => hs d hd
  have howns : C.e.platform.frameOwnsMonitors = true := by rw [S.admits.platform]
  have hfin : C.e.platform.finalization = false := by rw [S.admits.platform]
  have hpl : C.e.platform.magicAccessors = ({} : Platform).magicAccessors := by rw [S.admits.platform]
  have htr : C.e.platform.stackTraces = true := by rw [S.admits.platform]; exact hst
  obtain ⟨T0, L, hcT, hnF, hn0, hfS, hfU⟩ := own_thr howns hfin hpl hs
  obtain ⟨cell, u1, u2, u3⟩ := id N
  obtain ⟨ce, kE, x1, x2, x3, x4, x5⟩ := id E
  obtain rfl : ce = cell := Option.some.inj (x1.symm.trans u1)
  obtain ⟨cI, kI, y1, y2, y3, -⟩ := Cond.instantiable_spec wi
  have ecI : cI = ce.cls := Option.some.inj (y1.symm.trans x2)
  subst ecI
  obtain rfl : kI = kE := Option.some.inj (y2.symm.trans x3)
  obtain ⟨kX, hkX, heX⟩ := hal.2.2 _ _ x3
  have hord : kX.kind = .ordinary := by rw [heX]; exact y3
  have hszX : ce.slots.size = kX.instanceTypes.size := by rw [heX]; exact x5 y3
  have hfound : (C.s.setVm vm).vm.findClass rc = some ce.cls := by rw [hal.findClass]; exact x2
  -- stackTrace
  obtain ⟨c1, cf1, k1, i1, f1, m1, m2, m3, m4, m5, m6, m7⟩ := FS
  obtain rfl : c1 = ce := Option.some.inj (m1.symm.trans u1)
  have eS := (own_found hal m2 hfS).1
  have slS : RoadKit.slotOf Z tN "stackTrace" steD = T0.fStack.slot := by simp [RoadKit.slotOf, m2, eS]
  -- UNASSIGNED_STACK
  obtain ⟨cfU, iU, kU, fU, stU, cS, p1, p2, p3, p4, p5, p6, p7⟩ := SU.ext X.ext0
  obtain ⟨eU, eUs⟩ := own_found hal p1 hfU
  have eaS : stU = T0.aS := Option.some.inj (p4.symm.trans (eUs.symm.trans L.statics))
  subst eaS
  have hneS : T0.aS ≠ a := fun z => by
    rw [z, u1] at p5
    rw [← Option.some.inj p5, u2] at p6
    cases p6
  have hknS : cS.vm ≠ .unknown := fun z => by rw [z] at p6; cases p6
  -- backtrace
  obtain ⟨ci8, i8, fB, hk8, hg8, ha8, hsB, -, hnB, htyB, hffB⟩ := Cond.ownField (t := .object "java/lang/Object") hcT L.cls (by decide +kernel) (hs' (.fieldLink tN 198 tN "backtrace" obD) (by simp [thrWords])) (hs' (.lays rc tN "backtrace" obD) (by simp [thrWords])) C.e.platform hpl
  obtain ⟨c2, cf2, k2, i2, f2, b1, b2, b3, b4, b5, b6, b7⟩ := FB
  obtain rfl : c2 = c1 := Option.some.inj (b1.symm.trans u1)
  have eB := (own_found hal b2 hffB).1
  have slB : RoadKit.slotOf Z tN "backtrace" obD = fB.slot := by simp [RoadKit.slotOf, b2, eB]
  -- depth
  obtain ⟨_, _, cD, kD, iD, fD, _, _, hffD, hsD, _⟩ := Cond.lays_spec (hs' (.lays rc tN "depth" "I") (by simp [thrWords]))
  have ecD : cD = T0.cT := Option.some.inj ((Cond.lays_declared (hs' (.lays rc tN "depth" "I") (by simp [thrWords])) hffD).symm.trans hcT)
  subst ecD
  obtain ⟨hkD, hatD⟩ := State.fieldFound?_spec hffD
  obtain rfl : kD = T0.kT := Option.some.inj (hkD.symm.trans L.cls)
  obtain ⟨hnD, htyD⟩ := State.fieldFound?_type hffD (t := .int) (by decide +kernel)
  have slD : RoadKit.slotOf Z tN "depth" "I" = fD.slot := by
    obtain ⟨_, _, _, _, _, fZ, _, _, z1, _⟩ := Cond.lays_spec (show (Cond.lays rc tN "depth" "I").holds a0 Z none Z [] = true from Wd _ (by simp [thrWords]))
    have := (own_found hal z1 hffD).1
    simp [RoadKit.slotOf, z1, this]
  have hfb := Cond.soleField_find hcT L.cls (hs' (.soleField tN "backtrace") (by simp [thrWords])) ha8 hnB hsB
  have hfd := Cond.soleField_find hcT L.cls (hs' (.soleField tN "depth") (by simp [thrWords])) hatD hnD hsD
  obtain ⟨comp, cO, kO, -, -, hkO, hkindO, hO⟩ := Cond.arrayOver_spec (hs' (.arrayOver (.object "java/lang/Object")) (by simp [thrWords]))
  obtain ⟨tyS, -⟩ := Cond.laysAt hfound hkX hfS (hs' (.lays rc tN "stackTrace" steD) (by simp [thrWords]))
  obtain ⟨tyB, -⟩ := Cond.laysAt hfound hkX hffB (hs' (.lays rc tN "backtrace" obD) (by simp [thrWords]))
  obtain ⟨tyD, -⟩ := Cond.laysAt hfound hkX hffD (hs' (.lays rc tN "depth" "I") (by simp [thrWords]))
  have tk : ∀ {f : Field} {v : Value}, kX.instanceTypes[f.slot]? = some f.type → fits f.type v = true → Jvm.Takes (C.s.setVm vm) c2 f v := fun {f v} h1 h2 => by
    obtain ⟨q1, q2⟩ := Takes.of_laid (v := v) hkX hord h1 h2
    exact ⟨by rw [hszX]; simpa using q1, by rw [u2]; exact q2⟩
  have hsel0 : selectMethod C.e.platform (C.s.setVm vm).vm c2.cls T0.fill0 = .method T0.fill0 := by
    obtain ⟨c9, r9, m9, q1, q2, q3, q4, -⟩ := Cond.selects_spec (hs' (.selects rc tFill0 tFill0) (by simp [thrWords]))
    have g1 : c9 = c2.cls := Option.some.inj (q1.symm.trans hfound)
    have g2 : r9 = T0.fill0 := Option.some.inj (q2.symm.trans (State.methodFound?_of_named hn0 (by decide)))
    have g3 : m9 = T0.fill0 := Option.some.inj (q3.symm.trans hn0)
    subst g1 g2 g3
    rw [Launch.admits_selectMethod S.admits]; exact q4
  have tyS0 := (State.fieldFound?_type hfS (t := .array (.object "java/lang/StackTraceElement")) (by decide +kernel)).2
  have BK := Jvm.Free.Str.fillPays (l := C.l) (R := R) (p := C.p) (e := C.e) (below := C.below) (s := C.s.setVm vm) (sargs := C.args) (len := 3) (W := W) X.exec htr T0 L hnF (u0 := ⟨.ref u, rfl⟩) (fun z => nomatch z) (self := a) (cell := c2) (cellS := cS) (by rw [u2]; simp) (by rw [u2]; simp) (by rw [u3]) (by rw [u3])
    (by rw [eS]; exact m7) hsel0 hneS hknS (by rw [eU]; exact p7) (tk tyS (by rw [tyS0]; rfl)) ⟨⟨ci8, i8, fB⟩, ⟨hk8, hg8, ha8, hsB⟩, by rw [eB]; exact b7⟩ (hKn.alikeC hal) (hFK.alikeC hal) hcT hO hkO hkindO hfb hfd (fun _ => tk tyB (by rw [htyB]; rfl)) (fun _ => tk tyD (by rw [htyD]; rfl)) hf hlo
  obtain ⟨cB, kB, q1, q2, q3⟩ := isOf (s := C.s.setVm vm) X.zw X.eT E
  obtain ⟨v, vm1, B, -, S', hp, stp⟩ := S.virtualBack X.exec (y := tFill) (z := tFill) X.owned (hs (.methodLink tN 27 tFill) (by simp [thrWords])) (hs (.declares tFill) (by simp [thrWords])) (notFace_of_selects (hs (.selects rc tFill tFill) (by simp [thrWords]))) (hs (.selects rc tFill tFill) (by simp [thrWords])) (hs (.instanceMethod tFill) (by simp [thrWords])) (by decide) BK q1 q3 (g := mkF C.m pc Ls (.ref a :: st)) rfl (hsz.trans hml.symm) (Steps.refl _) (argsL := []) (rest := st) (lenOf (ps := []) (r := some (.object tN)) (by decide +kernel) rfl) rfl (by show 2 * 0 + _ ≤ _; omega) (X.dec hi)
    (fun _ _ => ⟨rfl, hc, hsl, by show T.heap[a]? = _; rw [X.eT]; exact u1, by show T.heap[T0.aS]? = _; rw [X.eT]; exact p5⟩)
  obtain ⟨rfl, vm', lines, hl, -, hU, hL, hcl, hsl2⟩ := hp
  have hsize : (traceHolder cO lines).slots.size ≤ 2752 := traceHolder_size_le cO hl
  rw [hL, hcl, hsl2] at S'
  have S2 := S'.more (Nat.le_refl _) (Nat.add_le_add_left hsize _)
  have alt : a < h.size := (Array.getElem?_eq_some_iff.mp u1).1
  have eh : B.U.heap = (((h.push (traceHolder cO lines)).setIfInBounds a (c2.setSlot fB.slot (.ref h.size))).setIfInBounds a ((c2.setSlot fB.slot (.ref h.size)).setSlot fD.slot (.int lines.length.toInt32))).setIfInBounds a (Jvm.Free.Str.filledOn T0.toThrowableT fB fD c2 ⟨.ref u, rfl⟩ h.size lines.length.toInt32) := by
    rw [hU]
    show (T.heap.push _).setIfInBounds a (Jvm.Free.Str.filledOn T0.toThrowableT fB fD c2 ⟨.ref u, rfl⟩ T.heap.size lines.length.toInt32) = _
    rw [X.eT, Array.setIfInBounds_setIfInBounds, Array.setIfInBounds_setIfInBounds]
  have E1 : Ext h (h.push (traceHolder cO lines)) := ⟨by simp, fun y c hy => by rw [Array.getElem?_push_lt (Array.getElem?_eq_some_iff.mp hy).1]; exact (Array.getElem?_eq_getElem _).symm.trans hy⟩
  have nst : c2.vm.isStatics = false := by rw [u2]; rfl
  have hbB : fB.slot < c2.slots.size := by rw [hszX]; exact (Array.getElem?_eq_some_iff.mp tyB).1
  have hbD : fD.slot < c2.slots.size := by rw [hszX]; exact (Array.getElem?_eq_some_iff.mp tyD).1
  have hbS : T0.fStack.slot < c2.slots.size := by rw [hszX]; exact (Array.getElem?_eq_some_iff.mp tyS).1
  have W1 : Wr (h.push (traceHolder cO lines)) _ a (RoadKit.slotOf Z tN "backtrace" obD) (.ref h.size) := ⟨c2, E1.2 _ _ u1, nst, by rw [slB]; exact hbB, by rw [slB]⟩
  have W2 : Wr ((h.push (traceHolder cO lines)).setIfInBounds a (c2.setSlot fB.slot (.ref h.size))) _ a (RoadKit.slotOf Z tN "depth" "I") (.int lines.length.toInt32) := ⟨c2.setSlot fB.slot (.ref h.size), by rw [Array.getElem?_setIfInBounds_self_of_lt (by simp only [Array.size_setIfInBounds, Array.size_push]; exact Nat.lt_succ_of_lt alt)], nst, by rw [slD]; simpa [Cell.setSlot] using hbD, by rw [slD]⟩
  have W3 : Wr (((h.push (traceHolder cO lines)).setIfInBounds a (c2.setSlot fB.slot (.ref h.size))).setIfInBounds a ((c2.setSlot fB.slot (.ref h.size)).setSlot fD.slot (.int lines.length.toInt32))) B.U.heap a (RoadKit.slotOf Z tN "stackTrace" steD) (.ref u) := ⟨(c2.setSlot fB.slot (.ref h.size)).setSlot fD.slot (.int lines.length.toInt32), by rw [Array.getElem?_setIfInBounds_self_of_lt (by simp only [Array.size_setIfInBounds, Array.size_push]; exact Nat.lt_succ_of_lt alt)], nst, by rw [slS]; simpa [Cell.setSlot] using hbS, by rw [slS]; exact eh⟩
  have mem : a ∈ [a] ∨ h.size ≤ a := Or.inl (List.mem_singleton.mpr rfl)
  have K : Keep h B.U.heap [a] := (((((Keep.refl h [a]).ext E1).wr W1 mem).wr W2 mem).wr W3 mem)
  have N2 : Fr n0 (locs ++ [⟨a, fB.slot⟩, ⟨a, fD.slot⟩, ⟨a, T0.fStack.slot⟩]) := N0.app fun y hy => by
    simp only [List.mem_cons, List.not_mem_nil, or_false] at hy
    rcases hy with rfl | rfl | rfl <;> exact ga
  exact Go.of (fun t z => stp.trans z) (g B.U _ _ _ B.U.heap _ _ (X.put S2 N2 hS hk rfl (CHr.keep K (sfS Sf sf0) X.chv) (X.old.keep K (allS ga all0))) E1 W1 W2 W3)
end Fill
end Jvm.Own
/- laws to paste: Road.backV, Road.lenW, Road.chN (cut by pick.py; bodies as the Statement names them) -/
namespace Jvm.Pilot.@@N@@
namespace StrChars
open Jvm Sem ClassFile Op Lib Jvm.Stand Jvm.Free.XT Jvm.Free.ALB Jvm.Free.JM Jvm.Free
open Jvm.Lib.Cold (StaticIs)
/-- a char array whose places are chars -/
def Ch (a : Addr) (A : Cell) (U : State) : Prop := Arr .char a A U ∧ Typed .char A
theorem Ch.mv {a : Addr} {A : Cell} {U U' : State} (h : Ch a A U) (hal : U.vm.Alike U'.vm) (hh : U'.heap = U.heap) : Ch a A U' := ⟨h.1.mv hal hh, h.2⟩
theorem Ch.keep {a : Addr} {A : Cell} {U U' : State} (h : Ch a A U) (hal : U.vm.Alike U'.vm) (hk : U'.heap[a]? = some A) : Ch a A U' := ⟨h.1.keep hal hk, h.2⟩
/-- what place i of a char[]'s cell holds -/
def cv (A : Cell) (i : Nat) : Int32 := match A.slots[i]? with | some (.int x) => x | _ => 0
theorem Ch.get {a : Addr} {A : Cell} {U : State} (h : Ch a A U) {i : Nat} (hi : i < A.slots.size) : A.slots[i]? = some (.int (cv A i)) := by
  have e := Array.getElem?_eq_getElem hi
  have f := h.2 i _ e
  unfold cv; rw [e]
  generalize A.slots[i] = v at f
  cases v <;> simp [fits] at f ⊢
/-- the byte that i2b leaves of a char -/
def lo8 (x : Int32) : Int32 := x.toInt8.toInt32
theorem fits_lo8 (y : Int32) : fits .byte (.int (lo8 y)) = true := by
  have h1 := y.toInt8.le_toInt
  have h2 := y.toInt8.toInt_lt
  simp only [lo8, fits, Bool.and_eq_true, decide_eq_true_eq, Int32.le_iff_toInt_le, Int8.toInt_toInt32, show (-128 : Int32).toInt = -128 from by decide, show (127 : Int32).toInt = 127 from by decide]
  omega
/-- A' is A but that each place j of lo .. hi - 1 holds f j -/
def Laid (A A' : Cell) (lo hi : Nat) (f : Nat → Value) : Prop := A'.cls = A.cls ∧ A'.vm = A.vm ∧ A'.slots.size = A.slots.size ∧ ∀ i, A'.slots[i]? = if lo ≤ i ∧ i < hi then some (f i) else A.slots[i]?
theorem Laid.zero (A : Cell) (lo : Nat) (f : Nat → Value) : Laid A A lo (lo + 0) f := ⟨rfl, rfl, rfl, fun i => by rw [if_neg (by omega)]⟩
theorem Laid.step {A Ak : Cell} {lo k : Nat} {f : Nat → Value} {v : Value} (h : Laid A Ak lo k f) (hlo : lo ≤ k) (hk : k < Ak.slots.size) (hv : v = f k) : Laid A (Ak.setSlot k v) lo (k + 1) f := by
  refine ⟨h.1, h.2.1, by simpa [Cell.setSlot] using h.2.2.1, fun i => ?_⟩
  by_cases e : k = i
  · subst e; rw [Cell.slots_setSlot_self v hk, if_pos (by omega), hv]
  · rw [Cell.slots_setSlot_ne v e, h.2.2.2 i]
    by_cases q : lo ≤ i ∧ i < k
    · rw [if_pos q, if_pos (by omega)]
    · rw [if_neg q, if_neg (by omega)]
def U16 : String := "java/lang/StringUTF16"
namespace Cmp5
def yN : MethodName := ⟨"java/lang/StringUTF16", "compress", "([CI[BII)I"⟩
abbrev yB : ByteArray := jdk_52_method_21_code
theorem d0 : decode yB 0 = .ok (.iconst 0, 1) := by decide +kernel
theorem d1 : decode yB 1 = .ok (.istore 5, 2) := by decide +kernel
theorem d3 : decode yB 3 = .ok (.iload 5, 2) := by decide +kernel
theorem d5 : decode yB 5 = .ok (.iload 4, 2) := by decide +kernel
theorem d7 : decode yB 7 = .ok (.if_icmp (.ge) 37, 3) := by decide +kernel
theorem d10 : decode yB 10 = .ok (.aload_n 0, 1) := by decide +kernel
theorem d11 : decode yB 11 = .ok (.iload_n 1, 1) := by decide +kernel
theorem d12 : decode yB 12 = .ok (.caload, 1) := by decide +kernel
theorem d13 : decode yB 13 = .ok (.istore 6, 2) := by decide +kernel
theorem d15 : decode yB 15 = .ok (.iload 6, 2) := by decide +kernel
theorem d17 : decode yB 17 = .ok (.sipush 255, 3) := by decide +kernel
theorem d20 : decode yB 20 = .ok (.if_icmp (.le) 6, 3) := by decide +kernel
theorem d26 : decode yB 26 = .ok (.aload_n 2, 1) := by decide +kernel
theorem d27 : decode yB 27 = .ok (.iload_n 3, 1) := by decide +kernel
theorem d28 : decode yB 28 = .ok (.iload 6, 2) := by decide +kernel
theorem d30 : decode yB 30 = .ok (.i2b, 1) := by decide +kernel
theorem d31 : decode yB 31 = .ok (.bastore, 1) := by decide +kernel
theorem d32 : decode yB 32 = .ok (.iinc 1 1, 3) := by decide +kernel
theorem d35 : decode yB 35 = .ok (.iinc 3 1, 3) := by decide +kernel
theorem d38 : decode yB 38 = .ok (.iinc 5 1, 3) := by decide +kernel
theorem d41 : decode yB 41 = .ok (.goto (-38), 3) := by decide +kernel
theorem d44 : decode yB 44 = .ok (.iload 4, 2) := by decide +kernel
theorem d46 : decode yB 46 = .ok (.ireturn, 1) := by decide +kernel
def site : List Cond := []
def tab : Cond := tabOf yN yB 7 (some .int) site
def P (b : Addr) (A : Cell) (d : Addr) (B : Cell) (o q len : Nat) (args : Array Value) (s : State) : Prop := args = #[.ref b, .int (Int32.ofNat o), .ref d, .int (Int32.ofNat q), .int (Int32.ofNat len)] ∧ Ch b A s ∧ Arr .byte d B s ∧ b ≠ d ∧ o + len ≤ A.slots.size ∧ q + len ≤ B.slots.size ∧ ∀ i, i < len → ¬ 255 < cv A (o + i)
def E (b : Addr) (A : Cell) (d : Addr) (B : Cell) (o q len : Nat) (r : Option Value) (s u : State) : Prop := r = some (.int (Int32.ofNat len)) ∧ ∃ B', Put d B' s u ∧ Laid B B' q (q + len) (fun j => Value.int (lo8 (cv A (o + (j - q)))))
/-- no char of the range above 255: len; the places written hold each char's low byte -/
theorem law (l : Launch) (b : Addr) (A : Cell) (d : Addr) (B : Cell) (o q len : Nat) : Law l yN 5 5 0 0 yB 7 (some .int) site (P b A d B o q len) (E b A d B o q len) (copyLocs d q len) 0 0 := by
  refine Law.of_walk (plainFor_of_name (by decide +kernel)) (by decide +kernel) (by decide +kernel) (by decide) (fun _ _ h => by rw [h.1]; rfl) (fun _ U U' hal hh h => ⟨h.1, h.2.1.mv hal hh, h.2.2.1.mv hal hh, h.2.2.2⟩) (fun r U U' V V' h1 hal h2 h => ⟨h.1, h.2.elim fun B' q => ⟨B', q.1.mv h1 h2, q.2⟩⟩) ?_
  intro p e s m args below meth c s₁ X0 hexec hbytes hml hret hlk hnm hown hh0 W hP
  obtain ⟨rfl, hA, hB, hne, l1, l2, hp⟩ := hP
  have c1 : Steps p.tables e below (s₁.setTop (entryFrame m #[.ref b, .int (Int32.ofNat o), .ref d, .int (Int32.ofNat q), .int (Int32.ofNat len)] 7)) (s₁.setTop (mkF m 0 #[.val (.ref b), .val (.int (Int32.ofNat o)), .val (.ref d), .val (.int (Int32.ofNat q)), .val (.int (Int32.ofNat len)), .unset, .unset] [])) := entry rfl
  have hA0 := hA.1.mv X0.warmed.alike hh0
  have hB0 := hB.mv X0.warmed.alike hh0
  have a31 := hA.1.2.2.2
  have c2 : Steps p.tables e below (s₁.setTop (entryFrame m #[.ref b, .int (Int32.ofNat o), .ref d, .int (Int32.ofNat q), .int (Int32.ofNat len)] 7)) (s₁.setTop (mkF m 3 #[.val (.ref b), .val (.int (Int32.ofNat o)), .val (.ref d), .val (.int (Int32.ofNat q)), .val (.int (Int32.ofNat len)), .val (.int 0), .unset] [])) := c1.trans (by
    refine iconstV X0.here hexec rfl 0 (hb hbytes d0) (by decide) ?_
    refine XS.istore X0.here hexec rfl (hb hbytes d1) rfl rfl ?_
    exact Steps.refl _)
  have loop : ∀ (r i : Nat), i + r = len → ∀ (z : Slot), (z = .unset ∨ ∃ w, z = .val w ∧ w.category = 1) → ∀ (Tl : State) (Bk : Cell), Stand p l e { frames := 0, locals := 0, cells := 0, slots := 0 } s m #[.ref b, .int (Int32.ofNat o), .ref d, .int (Int32.ofNat q), .int (Int32.ofNat len)] below meth c Tl ([] ++ copyLocs d q i) 0 0 → Put d Bk s₁ Tl → Laid B Bk q (q + i) (fun j => Value.int (lo8 (cv A (o + (j - q))))) →
      Steps p.tables e below (s₁.setTop (entryFrame m #[.ref b, .int (Int32.ofNat o), .ref d, .int (Int32.ofNat q), .int (Int32.ofNat len)] 7)) (Tl.setTop (mkF m 3 #[.val (.ref b), .val (.int (Int32.ofNat (o + i))), .val (.ref d), .val (.int (Int32.ofNat (q + i))), .val (.int (Int32.ofNat len)), .val (.int (Int32.ofNat i)), z] [])) → ∃ (T' : State) (B' : Cell) (z' : Slot), Stand p l e { frames := 0, locals := 0, cells := 0, slots := 0 } s m #[.ref b, .int (Int32.ofNat o), .ref d, .int (Int32.ofNat q), .int (Int32.ofNat len)] below meth c T' ([] ++ copyLocs d q len) 0 0 ∧ Put d B' s₁ T' ∧ Laid B B' q (q + len) (fun j => Value.int (lo8 (cv A (o + (j - q))))) ∧
      Steps p.tables e below (s₁.setTop (entryFrame m #[.ref b, .int (Int32.ofNat o), .ref d, .int (Int32.ofNat q), .int (Int32.ofNat len)] 7)) (T'.setTop (mkF m 3 #[.val (.ref b), .val (.int (Int32.ofNat (o + len))), .val (.ref d), .val (.int (Int32.ofNat (q + len))), .val (.int (Int32.ofNat len)), .val (.int (Int32.ofNat len)), z'] [])) := by
    intro r
    induction r with
    | zero =>
      intro i hi z hz Tl Bk Xl pl fl cl
      have hil : i = len := by omega
      rw [hil] at Xl fl cl
      exact ⟨Tl, Bk, z, Xl, pl, fl, cl⟩
    | succ r ih =>
      intro i hi z hz Tl Bk Xl pl fl cl
      have all := X0.warmed.alike.symm.trans Xl.warmed.alike
      have hAl := hA0.keep all (pl.other hne hA0.1)
      have hBk := hB0.like all pl.1 fl.1 fl.2.1 fl.2.2.1
      have hlt : q + i < Bk.slots.size := by rw [fl.2.2.1]; omega
      have c3 : Steps p.tables e below (s₁.setTop (entryFrame m #[.ref b, .int (Int32.ofNat o), .ref d, .int (Int32.ofNat q), .int (Int32.ofNat len)] 7)) (Tl.setTop (mkF m 12 #[.val (.ref b), .val (.int (Int32.ofNat (o + i))), .val (.ref d), .val (.int (Int32.ofNat (q + i))), .val (.int (Int32.ofNat len)), .val (.int (Int32.ofNat i)), z] [.int (Int32.ofNat (o + i)), .ref b])) := cl.trans (by
        refine XS.iload Xl.here hexec rfl (hb hbytes d3) rfl ?_
        refine XS.iload Xl.here hexec rfl (hb hbytes d5) rfl ?_
        refine XS.icmpNo Xl.here hexec rfl (hb hbytes d7) rfl (ii_ge_f (lt32 (by omega) (by omega))) ?_
        refine XS.aloadN Xl.here hexec rfl (hb hbytes d10) rfl rfl ?_
        refine XS.iloadN Xl.here hexec rfl (hb hbytes d11) rfl ?_
        exact Steps.refl _)
      have c4 : Steps p.tables e below (s₁.setTop (entryFrame m #[.ref b, .int (Int32.ofNat o), .ref d, .int (Int32.ofNat q), .int (Int32.ofNat len)] 7)) (Tl.setTop (mkF m 13 #[.val (.ref b), .val (.int (Int32.ofNat (o + i))), .val (.ref d), .val (.int (Int32.ofNat (q + i))), .val (.int (Int32.ofNat len)), .val (.int (Int32.ofNat i)), z] [.int (cv A (o + i))])) := c3.trans (by
        refine Xl.aget hexec hAl rfl (hA.get (i := o + i) (by omega)) rfl rfl (hb hbytes d12) ?_
        exact Steps.refl _)
      have c5 : Steps p.tables e below (s₁.setTop (entryFrame m #[.ref b, .int (Int32.ofNat o), .ref d, .int (Int32.ofNat q), .int (Int32.ofNat len)] 7)) (Tl.setTop (mkF m 15 #[.val (.ref b), .val (.int (Int32.ofNat (o + i))), .val (.ref d), .val (.int (Int32.ofNat (q + i))), .val (.int (Int32.ofNat len)), .val (.int (Int32.ofNat i)), .val (.int (cv A (o + i)))] [])) := c4.trans (by
        refine XS.istoreS Xl.here hexec rfl (hb hbytes d13) rfl rfl hz ?_
        exact Steps.refl _)
      have c6 : Steps p.tables e below (s₁.setTop (entryFrame m #[.ref b, .int (Int32.ofNat o), .ref d, .int (Int32.ofNat q), .int (Int32.ofNat len)] 7)) (Tl.setTop (mkF m 31 #[.val (.ref b), .val (.int (Int32.ofNat (o + i))), .val (.ref d), .val (.int (Int32.ofNat (q + i))), .val (.int (Int32.ofNat len)), .val (.int (Int32.ofNat i)), .val (.int (cv A (o + i)))] [.int (lo8 (cv A (o + i))), .int (Int32.ofNat (q + i)), .ref d])) := c5.trans (by
        refine XS.iload Xl.here hexec rfl (hb hbytes d15) rfl ?_
        refine sipushV Xl.here hexec rfl 255 (hb hbytes d17) (by decide) ?_
        refine XS.icmpYes Xl.here hexec rfl (pc0 := 20) rfl (hb hbytes d20) rfl (ii_le_t (hp i (by omega))) (by decide) rfl ?_
        refine XS.aloadN Xl.here hexec rfl (hb hbytes d26) rfl rfl ?_
        refine XS.iloadN Xl.here hexec rfl (hb hbytes d27) rfl ?_
        refine XS.iload Xl.here hexec rfl (hb hbytes d28) rfl ?_
        refine i2b Xl.here hexec rfl (hb hbytes d30) rfl ?_
        exact Steps.refl _)
      obtain ⟨T7, X7, p7, st7⟩ := Xl.aput hexec hBk rfl hlt rfl (fits_lo8 (cv A (o + i))) (g := (mkF m 31 #[.val (.ref b), .val (.int (Int32.ofNat (o + i))), .val (.ref d), .val (.int (Int32.ofNat (q + i))), .val (.int (Int32.ofNat len)), .val (.int (Int32.ofNat i)), .val (.int (cv A (o + i)))] [.int (lo8 (cv A (o + i))), .int (Int32.ofNat (q + i)), .ref d])) rfl (rest := []) rfl (hb hbytes d31)
      have c8 : Steps p.tables e below (s₁.setTop (entryFrame m #[.ref b, .int (Int32.ofNat o), .ref d, .int (Int32.ofNat q), .int (Int32.ofNat len)] 7)) (T7.setTop (mkF m 32 #[.val (.ref b), .val (.int (Int32.ofNat (o + i))), .val (.ref d), .val (.int (Int32.ofNat (q + i))), .val (.int (Int32.ofNat len)), .val (.int (Int32.ofNat i)), .val (.int (cv A (o + i)))] [])) := c6.trans (st7 _ (Steps.refl _))
      have c9 : Steps p.tables e below (s₁.setTop (entryFrame m #[.ref b, .int (Int32.ofNat o), .ref d, .int (Int32.ofNat q), .int (Int32.ofNat len)] 7)) (T7.setTop (mkF m 3 #[.val (.ref b), .val (.int (Int32.ofNat (o + i) + 1)), .val (.ref d), .val (.int (Int32.ofNat (q + i) + 1)), .val (.int (Int32.ofNat len)), .val (.int (Int32.ofNat i + 1)), .val (.int (cv A (o + i)))] [])) := c8.trans (by
        refine iincV X7.here hexec rfl 1 (hb hbytes d32) (by decide) rfl rfl ?_
        refine iincV X7.here hexec rfl 1 (hb hbytes d35) (by decide) rfl rfl ?_
        refine iincV X7.here hexec rfl 1 (hb hbytes d38) (by decide) rfl rfl ?_
        refine XS.goto X7.here hexec rfl (pc0 := 41) rfl (hb hbytes d41) (by decide) rfl ?_
        exact Steps.refl _)
      have c10 : Steps p.tables e below (s₁.setTop (entryFrame m #[.ref b, .int (Int32.ofNat o), .ref d, .int (Int32.ofNat q), .int (Int32.ofNat len)] 7)) (T7.setTop (mkF m 3 #[.val (.ref b), .val (.int (Int32.ofNat (o + (i + 1)))), .val (.ref d), .val (.int (Int32.ofNat (q + (i + 1)))), .val (.int (Int32.ofNat len)), .val (.int (Int32.ofNat (i + 1))), .val (.int (cv A (o + i)))] [])) := by
        have := c9
        rw [succ32, succ32, succ32] at this
        exact this
      exact ih (i + 1) (by omega) _ (Or.inr ⟨_, rfl, rfl⟩) T7 _ (by rw [copyLocs_step, ← List.append_assoc]; exact X7) (pl.trans p7) (fl.step (by omega) hlt (by simp)) c10
  obtain ⟨T9, B9, z9, X9, p9, f9, g9⟩ := loop len 0 (by omega) .unset (Or.inl rfl) s₁ B (by simpa [copyLocs] using X0) ⟨hB0.1, fun _ _ => rfl, rfl⟩ (Laid.zero _ _ _) c2
  have c11 : Steps p.tables e below (s₁.setTop (entryFrame m #[.ref b, .int (Int32.ofNat o), .ref d, .int (Int32.ofNat q), .int (Int32.ofNat len)] 7)) (T9.setTop (mkF m 46 #[.val (.ref b), .val (.int (Int32.ofNat (o + len))), .val (.ref d), .val (.int (Int32.ofNat (q + len))), .val (.int (Int32.ofNat len)), .val (.int (Int32.ofNat len)), z9] [.int (Int32.ofNat len)])) := g9.trans (by
    refine XS.iload X9.here hexec rfl (hb hbytes d3) rfl ?_
    refine XS.iload X9.here hexec rfl (hb hbytes d5) rfl ?_
    refine XS.icmpYes X9.here hexec rfl (pc0 := 7) rfl (hb hbytes d7) rfl (ii_ge_t (nlt32 (by omega) (Nat.le_refl _))) (by decide) rfl ?_
    refine XS.iload X9.here hexec rfl (hb hbytes d44) rfl ?_
    exact Steps.refl _)
  exact ⟨T9, some (.int (Int32.ofNat len)), _, _, _, X9, by simp, rfl, rfl, (fun h => by cases h), ⟨rfl, B9, p9.from hh0, f9⟩, fun fs hl => c11.trans (X9.ireturnOut hexec hret rfl (Or.inl rfl) (hb hbytes d46) hl)⟩
end Cmp5
namespace Cmp3
def yN : MethodName := ⟨"java/lang/StringUTF16", "compress", "([CII)[B"⟩
abbrev yB : ByteArray := jdk_52_method_16_code
theorem d0 : decode yB 0 = .ok (.iload_n 2, 1) := by decide +kernel
theorem d1 : decode yB 1 = .ok (.newarray .byte, 2) := by decide +kernel
theorem d3 : decode yB 3 = .ok (.astore_n 3, 1) := by decide +kernel
theorem d4 : decode yB 4 = .ok (.aload_n 0, 1) := by decide +kernel
theorem d5 : decode yB 5 = .ok (.iload_n 1, 1) := by decide +kernel
theorem d6 : decode yB 6 = .ok (.aload_n 3, 1) := by decide +kernel
theorem d7 : decode yB 7 = .ok (.iconst 0, 1) := by decide +kernel
theorem d8 : decode yB 8 = .ok (.iload_n 2, 1) := by decide +kernel
theorem d9 : decode yB 9 = .ok (.invokestatic 115, 3) := by decide +kernel
theorem d12 : decode yB 12 = .ok (.istore 4, 2) := by decide +kernel
theorem d14 : decode yB 14 = .ok (.iload 4, 2) := by decide +kernel
theorem d16 : decode yB 16 = .ok (.iload_n 2, 1) := by decide +kernel
theorem d17 : decode yB 17 = .ok (.if_icmp (.eq) 40, 3) := by decide +kernel
theorem d57 : decode yB 57 = .ok (.aload_n 3, 1) := by decide +kernel
theorem d58 : decode yB 58 = .ok (.areturn, 1) := by decide +kernel
def site : List Cond := [.arrayClass .byte, Cmp5.tab] ++ staticW U16 115 Cmp5.yN
def tab : Cond := tabOf yN yB 6 (some (.array .byte)) site
def P (b : Addr) (A : Cell) (o len : Nat) (args : Array Value) (s : State) : Prop := args = #[.ref b, .int (Int32.ofNat o), .int (Int32.ofNat len)] ∧ Ch b A s ∧ o + len ≤ A.slots.size ∧ len ≤ 536870912 ∧ ∀ i, i < len → ¬ 255 < cv A (o + i)
def E (b : Addr) (A : Cell) (o len : Nat) (r : Option Value) (s u : State) : Prop := NewArr .byte "[B" len (fun j => .int (lo8 (cv A (o + j)))) r s u ∧ u.heap.size = s.heap.size + 1
/-- no char of the range above 255: a new byte[] of their low bytes -/
theorem law (l : Launch) (b : Addr) (A : Cell) (o len : Nat) : Law l yN 3 3 1 18 yB 6 (some (.array .byte)) site (P b A o len) (E b A o len) [] 1 len := by
  refine Law.of_walk (plainFor_of_name (by decide +kernel)) (by decide +kernel) (by decide +kernel) (by decide) (fun _ _ h => by rw [h.1]; rfl) (fun _ U U' hal hh h => ⟨h.1, h.2.1.mv hal hh, h.2.2⟩) (fun r U U' V V' h1 hal h2 h => ⟨NewArr.mv r U U' V V' h1 hal h2 h.1, by rw [h1, h2]; exact h.2⟩) ?_
  intro p e s m args below meth c s₁ X0 hexec hbytes hml hret hlk hnm hown hh0 W hP
  obtain ⟨rfl, hA, l1, l2, hp⟩ := hP
  have a31 := hA.1.2.2.2
  have c1 : Steps p.tables e below (s₁.setTop (entryFrame m #[.ref b, .int (Int32.ofNat o), .int (Int32.ofNat len)] 6)) (s₁.setTop (mkF m 0 #[.val (.ref b), .val (.int (Int32.ofNat o)), .val (.int (Int32.ofNat len)), .unset, .unset, .unset] [])) := entry rfl
  have c2 : Steps p.tables e below (s₁.setTop (entryFrame m #[.ref b, .int (Int32.ofNat o), .int (Int32.ofNat len)] 6)) (s₁.setTop (mkF m 1 #[.val (.ref b), .val (.int (Int32.ofNat o)), .val (.int (Int32.ofNat len)), .unset, .unset, .unset] [.int (Int32.ofNat len)])) := c1.trans (by
    refine XS.iloadN X0.here hexec rfl (hb hbytes d0) rfl ?_
    exact Steps.refl _)
  obtain ⟨T3, B3, X3, ba3, bs3, bv3, bh3, bf3, st3⟩ := X0.anew hexec (atype := .byte) (wk W (.arrayClass .byte)) rfl (by show len * 1 ≤ _; omega) (by omega) (g := (mkF m 1 #[.val (.ref b), .val (.int (Int32.ofNat o)), .val (.int (Int32.ofNat len)), .unset, .unset, .unset] [.int (Int32.ofNat len)])) rfl (hb hbytes d1) (rest := []) rfl (Nat.le_refl _) (by show 0 + len ≤ len; omega)
  rw [hh0] at ba3 st3
  have kp3 : XT.Kept s T3 := (XT.Kept.of_eq hh0).push bh3
  have hA3 := hA.keep X3.warmed.alike (kp3 _ _ hA.1.1)
  have hne : b ≠ s.heap.size := hA.1.ne
  have c4 : Steps p.tables e below (s₁.setTop (entryFrame m #[.ref b, .int (Int32.ofNat o), .int (Int32.ofNat len)] 6)) (T3.setTop (mkF m 3 #[.val (.ref b), .val (.int (Int32.ofNat o)), .val (.int (Int32.ofNat len)), .unset, .unset, .unset] [.ref s.heap.size])) := c2.trans (st3 _ (Steps.refl _))
  have c5 : Steps p.tables e below (s₁.setTop (entryFrame m #[.ref b, .int (Int32.ofNat o), .int (Int32.ofNat len)] 6)) (T3.setTop (mkF m 9 #[.val (.ref b), .val (.int (Int32.ofNat o)), .val (.int (Int32.ofNat len)), .val (.ref s.heap.size), .unset, .unset] [.int (Int32.ofNat len), .int 0, .ref s.heap.size, .int (Int32.ofNat o), .ref b])) := c4.trans (by
    refine XS.astoreN X3.here hexec rfl (hb hbytes d3) rfl rfl rfl ?_
    refine XS.aloadN X3.here hexec rfl (hb hbytes d4) rfl rfl ?_
    refine XS.iloadN X3.here hexec rfl (hb hbytes d5) rfl ?_
    refine XS.aloadN X3.here hexec rfl (hb hbytes d6) rfl rfl ?_
    refine iconstV X3.here hexec rfl 0 (hb hbytes d7) (by decide) ?_
    refine XS.iloadN X3.here hexec rfl (hb hbytes d8) rfl ?_
    exact Steps.refl _)
  obtain ⟨v6, T6, X6, E6, g6⟩ := X3.callS hexec (Cmp5.law l b A s.heap.size B3 o 0 len) hown (wks W (staticW U16 115 Cmp5.yN)) (wk W Cmp5.tab) (W := 0) (Nat.le_of_ble_eq_true rfl) (Nat.le_of_ble_eq_true rfl) (Nat.le_refl _) (by show 0 + len + 0 ≤ len; omega) (g := (mkF m 9 #[.val (.ref b), .val (.int (Int32.ofNat o)), .val (.int (Int32.ofNat len)), .val (.ref s.heap.size), .unset, .unset] [.int (Int32.ofNat len), .int (Int32.ofNat 0), .ref s.heap.size, .int (Int32.ofNat o), .ref b])) rfl (by rw [hml]; rfl) c5 (argsL := [.ref b, .int (Int32.ofNat o), .ref s.heap.size, .int (Int32.ofNat 0), .int (Int32.ofNat len)]) (rest := []) rfl rfl (by show 2 * 0 + 0 ≤ _; decide) (hb hbytes d9) (⟨rfl, hA3, ba3, hne, l1, by rw [bs3]; simp, hp⟩)
  obtain ⟨rfl, B6, p6, f6⟩ := E6
  have c7 : Steps p.tables e below (s₁.setTop (entryFrame m #[.ref b, .int (Int32.ofNat o), .int (Int32.ofNat len)] 6)) (T6.setTop (mkF m 12 #[.val (.ref b), .val (.int (Int32.ofNat o)), .val (.int (Int32.ofNat len)), .val (.ref s.heap.size), .unset, .unset] [.int (Int32.ofNat len)])) := g6
  have c8 : Steps p.tables e below (s₁.setTop (entryFrame m #[.ref b, .int (Int32.ofNat o), .int (Int32.ofNat len)] 6)) (T6.setTop (mkF m 58 #[.val (.ref b), .val (.int (Int32.ofNat o)), .val (.int (Int32.ofNat len)), .val (.ref s.heap.size), .val (.int (Int32.ofNat len)), .unset] [.ref s.heap.size])) := c7.trans (by
    refine XS.istore X6.here hexec rfl (hb hbytes d12) rfl rfl ?_
    refine XS.iload X6.here hexec rfl (hb hbytes d14) rfl ?_
    refine XS.iloadN X6.here hexec rfl (hb hbytes d16) rfl ?_
    refine XS.icmpYes X6.here hexec rfl (pc0 := 17) rfl (hb hbytes d17) rfl (ii_eq_t rfl) (by decide) rfl ?_
    refine XS.aloadN X6.here hexec rfl (hb hbytes d57) rfl rfl ?_
    exact Steps.refl _)
  have X8 := X6.wide (L' := []) (cells' := 1) (slots' := len) (fun x hx hlt => by
    simp only [List.nil_append, copyLocs, List.mem_map, List.mem_range] at hx
    obtain ⟨i, -, rfl⟩ := hx
    exact absurd hlt (Nat.lt_irrefl _)) (Nat.le_refl _) (by omega)
  exact ⟨T6, some (.ref s.heap.size), _, _, _, X8, rfl, rfl, rfl, (fun h => by cases h), ⟨⟨rfl, B6, ba3.like (X3.warmed.alike.symm.trans X6.warmed.alike) p6.1 f6.1 f6.2.1 f6.2.2.1, f6.2.1.trans bv3, by rw [X6.warmed.alike.findClass, f6.1]; exact bf3, by rw [f6.2.2.1, bs3]; simp, fun j hj => by rw [f6.2.2.2 j, if_pos (by omega)]; rfl, kp3.put p6 (Nat.le_refl _)⟩, by rw [p6.2.2, bh3, hh0]; simp⟩, fun fs hl => c8.trans (X8.areturnOut hexec rfl hret rfl (hb hbytes d58) hl)⟩
end Cmp3
namespace CodL
def yN : MethodName := ⟨"java/lang/StringUTF16", "coderFromArrayLen", "([BI)B"⟩
abbrev yB : ByteArray := jdk_52_method_15_code
theorem d0 : decode yB 0 = .ok (.iload_n 1, 1) := by decide +kernel
theorem d1 : decode yB 1 = .ok (.aload_n 0, 1) := by decide +kernel
theorem d2 : decode yB 2 = .ok (.arraylength, 1) := by decide +kernel
theorem d3 : decode yB 3 = .ok (.isub, 1) := by decide +kernel
theorem d4 : decode yB 4 = .ok (.bipush 31, 2) := by decide +kernel
theorem d6 : decode yB 6 = .ok (.iushr, 1) := by decide +kernel
theorem d7 : decode yB 7 = .ok (.i2b, 1) := by decide +kernel
theorem d8 : decode yB 8 = .ok (.ireturn, 1) := by decide +kernel
def site : List Cond := []
def tab : Cond := tabOf yN yB 2 (some .byte) site
def P (d : Addr) (B : Cell) (args : Array Value) (s : State) : Prop := args = #[.ref d, .int (Int32.ofNat B.slots.size)] ∧ Arr .byte d B s
def E (r : Option Value) (s u : State) : Prop := XT.PureE (some (.int 0)) r s u
/-- an array as long as the number of chars: LATIN1 -/
theorem law (l : Launch) (d : Addr) (B : Cell) : Law l yN 2 2 0 0 yB 2 (some .byte) site (P d B) E [] 0 0 := by
  refine Law.of_walk (plainFor_of_name (by decide +kernel)) (by decide +kernel) (by decide +kernel) (by decide) (fun _ _ h => by rw [h.1]; rfl) (fun _ U U' hal hh h => ⟨h.1, h.2.mv hal hh⟩) (fun r U U' V V' h1 hal h2 h => XT.PureE.mv r U U' V V' h1 hal h2 h) ?_
  intro p e s m args below meth c s₁ X0 hexec hbytes hml hret hlk hnm hown hh0 W hP
  obtain ⟨rfl, hB⟩ := hP
  have hB0 := hB.mv X0.warmed.alike hh0
  have c1 : Steps p.tables e below (s₁.setTop (entryFrame m #[.ref d, .int (Int32.ofNat B.slots.size)] 2)) (s₁.setTop (mkF m 0 #[.val (.ref d), .val (.int (Int32.ofNat B.slots.size))] [])) := entry rfl
  have c2 : Steps p.tables e below (s₁.setTop (entryFrame m #[.ref d, .int (Int32.ofNat B.slots.size)] 2)) (s₁.setTop (mkF m 2 #[.val (.ref d), .val (.int (Int32.ofNat B.slots.size))] [.ref d, .int (Int32.ofNat B.slots.size)])) := c1.trans (by
    refine XS.iloadN X0.here hexec rfl (hb hbytes d0) rfl ?_
    refine XS.aloadN X0.here hexec rfl (hb hbytes d1) rfl rfl ?_
    exact Steps.refl _)
  have c3 : Steps p.tables e below (s₁.setTop (entryFrame m #[.ref d, .int (Int32.ofNat B.slots.size)] 2)) (s₁.setTop (mkF m 8 #[.val (.ref d), .val (.int (Int32.ofNat B.slots.size))] [.int (lo8 (ushr (Int32.ofNat B.slots.size - Int32.ofNat B.slots.size) 31))])) := c2.trans (by
    refine X0.alen hexec hB0 rfl rfl (hb hbytes d2) ?_
    refine XS.isub X0.here hexec rfl (hb hbytes d3) rfl ?_
    refine bipushV X0.here hexec rfl 31 (hb hbytes d4) (by decide) ?_
    refine iushr X0.here hexec rfl (hb hbytes d6) rfl ?_
    refine i2b X0.here hexec rfl (hb hbytes d7) rfl ?_
    exact Steps.refl _)
  have e0 : lo8 (ushr (Int32.ofNat B.slots.size - Int32.ofNat B.slots.size) 31) = 0 := by rw [Int32.sub_self]; decide
  rw [e0] at c3
  exact ⟨s₁, some (.int 0), _, _, _, X0, rfl, rfl, rfl, (fun h => by cases h), ⟨rfl, hh0⟩, fun fs hl => c3.trans (X0.ireturnOut hexec hret rfl (Or.inr (Or.inr (Or.inl rfl))) (hb hbytes d8) hl)⟩
end CodL
/-- the String at a is Latin-1 over a new byte[] (the heap's one new cell): the low bytes of the len chars of A from o on; every cell but a is kept -/
def Got (a : Addr) (D : Cell) (fV fC : Field) (A : Cell) (o len : Nat) (r : Option Value) (s u : State) : Prop := r = none ∧ ∃ D' V : Cell, Blank "java/lang/String" a D' u ∧ Same D D' [fV.slot, fC.slot] ∧ D'.slots[fV.slot]? = some (.ref s.heap.size) ∧ D'.slots[fC.slot]? = some (.int 0) ∧ Arr .byte s.heap.size V u ∧ V.vm = .none ∧ u.vm.findClass "[B" = some V.cls ∧ V.slots.size = len ∧ (∀ j, j < len → V.slots[j]? = some (.int (lo8 (cv A (o + j))))) ∧ (∀ (y : Addr) (c : Cell), y ≠ a → s.heap[y]? = some c → u.heap[y]? = some c) ∧ u.heap.size = s.heap.size + 1
theorem Got.mv {a : Addr} {D A : Cell} {fV fC : Field} {o len : Nat} : ∀ r (U U' V V' : State), U'.heap = U.heap → V.vm.Alike V'.vm → V'.heap = V.heap → Got a D fV fC A o len r U V → Got a D fV fC A o len r U' V' :=
  fun r U U' V V' h1 hal h2 ⟨e0, D', X, a1, a2, a3, a4, a5, a6, a7, a8, a9, a10, a11⟩ => ⟨e0, D', X, a1.mv hal h2, a2, by rw [h1]; exact a3, a4, by rw [h1]; exact a5.mv hal h2, a6, by rw [hal.findClass]; exact a7, a8, a9, by rw [h1, h2]; exact a10, by rw [h1, h2]; exact a11⟩
namespace New4
def yN : MethodName := ⟨"java/lang/String", "<init>", "([CIILjava/lang/Void;)V"⟩
abbrev yB : ByteArray := jdk_42_method_149_code
theorem d0 : decode yB 0 = .ok (.aload_n 0, 1) := by decide +kernel
theorem d1 : decode yB 1 = .ok (.invokespecial 1, 3) := by decide +kernel
theorem d4 : decode yB 4 = .ok (.iload_n 3, 1) := by decide +kernel
theorem d5 : decode yB 5 = .ok (.ifCond (.ne) 22, 3) := by decide +kernel
theorem d27 : decode yB 27 = .ok (.getstatic 38, 3) := by decide +kernel
theorem d30 : decode yB 30 = .ok (.ifCond (.eq) 28, 3) := by decide +kernel
theorem d33 : decode yB 33 = .ok (.aload_n 1, 1) := by decide +kernel
theorem d34 : decode yB 34 = .ok (.iload_n 2, 1) := by decide +kernel
theorem d35 : decode yB 35 = .ok (.iload_n 3, 1) := by decide +kernel
theorem d36 : decode yB 36 = .ok (.invokestatic 177, 3) := by decide +kernel
theorem d39 : decode yB 39 = .ok (.astore 5, 2) := by decide +kernel
theorem d41 : decode yB 41 = .ok (.aload_n 0, 1) := by decide +kernel
theorem d42 : decode yB 42 = .ok (.aload 5, 2) := by decide +kernel
theorem d44 : decode yB 44 = .ok (.iload_n 3, 1) := by decide +kernel
theorem d45 : decode yB 45 = .ok (.invokestatic 47, 3) := by decide +kernel
theorem d48 : decode yB 48 = .ok (.putfield 15, 3) := by decide +kernel
theorem d51 : decode yB 51 = .ok (.aload_n 0, 1) := by decide +kernel
theorem d52 : decode yB 52 = .ok (.aload 5, 2) := by decide +kernel
theorem d54 : decode yB 54 = .ok (.putfield 9, 3) := by decide +kernel
theorem d57 : decode yB 57 = .ok (.return_, 1) := by decide +kernel
def site : List Cond := [.fieldLink "java/lang/String" 38 "java/lang/String" "COMPACT_STRINGS" "Z", Cmp3.tab, CodL.tab, .laysFinal "java/lang/String" "java/lang/String" "value" "[B", .fieldLink "java/lang/String" 9 "java/lang/String" "value" "[B", .laysFinal "java/lang/String" "java/lang/String" "coder" "B", .fieldLink "java/lang/String" 15 "java/lang/String" "coder" "B"] ++ objW "java/lang/String" 1 ++ staticW "java/lang/String" 177 Cmp3.yN ++ staticW "java/lang/String" 47 CodL.yN
def tab : Cond := tabOf yN yB 6 none site
def P (a : Addr) (D : Cell) (fV fC : Field) (b : Addr) (A : Cell) (z : Int32) (o len : Nat) (args : Array Value) (s : State) : Prop := args = #[.ref a, .ref b, .int (Int32.ofNat o), .int (Int32.ofNat len), .null] ∧ Blank "java/lang/String" a D s ∧ Found "java/lang/String" "value" "[B" fV s ∧ Found "java/lang/String" "coder" "B" fC s ∧ Ch b A s ∧ StaticIs s "java/lang/String" "COMPACT_STRINGS" "Z" (.int z) ∧ ¬ z = 0 ∧ 0 < len ∧ o + len ≤ A.slots.size ∧ len ≤ 536870912 ∧ ∀ i, i < len → ¬ 255 < cv A (o + i)
def E (a : Addr) (D : Cell) (fV fC : Field) (A : Cell) (o len : Nat) (r : Option Value) (s u : State) : Prop := Got a D fV fC A o len r s u
/-- len > 0, no char of the range above 255: a Latin-1 String of their low bytes -/
theorem law (l : Launch) (a : Addr) (D : Cell) (fV fC : Field) (b : Addr) (A : Cell) (z : Int32) (o len : Nat) : Law l yN 5 4 2 35 yB 6 none site (P a D fV fC b A z o len) (E a D fV fC A o len) [⟨a, fC.slot⟩, ⟨a, fV.slot⟩] 1 len := by
  refine Law.of_walk (plainFor_of_name (by decide +kernel)) (by decide +kernel) (by decide +kernel) (by decide) (fun _ _ h => by rw [h.1]; rfl) (fun _ U U' hal hh h => ⟨h.1, h.2.1.mv hal hh, h.2.2.1.al hal, h.2.2.2.1.al hal, h.2.2.2.2.1.mv hal hh, h.2.2.2.2.2.1.there hal hh, h.2.2.2.2.2.2⟩) (fun r U U' V V' h1 hal h2 h => Got.mv r U U' V V' h1 hal h2 h) ?_
  intro p e s m args below meth c s₁ X0 hexec hbytes hml hret hlk hnm hown hh0 W hP
  obtain ⟨rfl, hB, f1, f2, hA, s1, hz, l0, l1, l2, hp⟩ := hP
  have a31 := hA.1.2.2.2
  have c1 : Steps p.tables e below (s₁.setTop (entryFrame m #[.ref a, .ref b, .int (Int32.ofNat o), .int (Int32.ofNat len), .null] 6)) (s₁.setTop (mkF m 0 #[.val (.ref a), .val (.ref b), .val (.int (Int32.ofNat o)), .val (.int (Int32.ofNat len)), .val .null, .unset] [])) := entry rfl
  have c2 : Steps p.tables e below (s₁.setTop (entryFrame m #[.ref a, .ref b, .int (Int32.ofNat o), .int (Int32.ofNat len), .null] 6)) (s₁.setTop (mkF m 1 #[.val (.ref a), .val (.ref b), .val (.int (Int32.ofNat o)), .val (.int (Int32.ofNat len)), .val .null, .unset] [.ref a])) := c1.trans (by
    refine XS.aloadN X0.here hexec rfl (hb hbytes d0) rfl rfl ?_
    exact Steps.refl _)
  obtain ⟨T3, X3, q3, st3⟩ := X0.oinit hexec hown (wks W (objW "java/lang/String" 1)) (g := (mkF m 1 #[.val (.ref a), .val (.ref b), .val (.int (Int32.ofNat o)), .val (.int (Int32.ofNat len)), .val .null, .unset] [.ref a])) rfl (by rw [hml]; rfl) (rest := []) rfl (hb hbytes d1) (W := 0) (by show 2 * 0 + 0 ≤ _; decide) (Nat.le_of_ble_eq_true rfl) (Nat.le_of_ble_eq_true rfl)
  have hh3 := q3.trans hh0
  have c4 : Steps p.tables e below (s₁.setTop (entryFrame m #[.ref a, .ref b, .int (Int32.ofNat o), .int (Int32.ofNat len), .null] 6)) (T3.setTop (mkF m 27 #[.val (.ref a), .val (.ref b), .val (.int (Int32.ofNat o)), .val (.int (Int32.ofNat len)), .val .null, .unset] [])) := (c2.trans (st3 _ (Steps.refl _))).trans (by
    refine XS.iloadN X3.here hexec rfl (hb hbytes d4) rfl ?_
    refine XS.ifYes X3.here hexec rfl (pc0 := 5) rfl (hb hbytes d5) rfl (i0_ne_t (nz32 (by omega) l0)) (by decide) rfl ?_
    exact Steps.refl _)
  obtain ⟨T5, X5, q5, st5⟩ := X3.sget hexec hown (wk W (.fieldLink "java/lang/String" 38 "java/lang/String" "COMPACT_STRINGS" "Z")) s1 (fun _ _ h => by rw [hh3]; exact h) (g := (mkF m 27 #[.val (.ref a), .val (.ref b), .val (.int (Int32.ofNat o)), .val (.int (Int32.ofNat len)), .val .null, .unset] [])) rfl (hb hbytes d27)
  have hh5 := q5.trans hh3
  have c6 : Steps p.tables e below (s₁.setTop (entryFrame m #[.ref a, .ref b, .int (Int32.ofNat o), .int (Int32.ofNat len), .null] 6)) (T5.setTop (mkF m 30 #[.val (.ref a), .val (.ref b), .val (.int (Int32.ofNat o)), .val (.int (Int32.ofNat len)), .val .null, .unset] [.int z])) := c4.trans (st5 _ (Steps.refl _))
  have c7 : Steps p.tables e below (s₁.setTop (entryFrame m #[.ref a, .ref b, .int (Int32.ofNat o), .int (Int32.ofNat len), .null] 6)) (T5.setTop (mkF m 36 #[.val (.ref a), .val (.ref b), .val (.int (Int32.ofNat o)), .val (.int (Int32.ofNat len)), .val .null, .unset] [.int (Int32.ofNat len), .int (Int32.ofNat o), .ref b])) := c6.trans (by
    refine XS.ifNo X5.here hexec rfl (hb hbytes d30) rfl (i0_eq_f hz) ?_
    refine XS.aloadN X5.here hexec rfl (hb hbytes d33) rfl rfl ?_
    refine XS.iloadN X5.here hexec rfl (hb hbytes d34) rfl ?_
    refine XS.iloadN X5.here hexec rfl (hb hbytes d35) rfl ?_
    exact Steps.refl _)
  obtain ⟨v8, T8, X8, E8, g8⟩ := X5.callS hexec (Cmp3.law l b A o len) hown (wks W (staticW "java/lang/String" 177 Cmp3.yN)) (wk W Cmp3.tab) (W := 0) (Nat.le_of_ble_eq_true rfl) (Nat.le_of_ble_eq_true rfl) (Nat.le_refl _) (by show 0 + len ≤ len; omega) (g := (mkF m 36 #[.val (.ref a), .val (.ref b), .val (.int (Int32.ofNat o)), .val (.int (Int32.ofNat len)), .val .null, .unset] [.int (Int32.ofNat len), .int (Int32.ofNat o), .ref b])) rfl (by rw [hml]; rfl) c7 (argsL := [.ref b, .int (Int32.ofNat o), .int (Int32.ofNat len)]) (rest := []) rfl rfl (by show 2 * 0 + 0 ≤ _; decide) (hb hbytes d36) (⟨rfl, hA.mv X5.warmed.alike hh5, l1, l2, hp⟩)
  obtain ⟨e8, z8⟩ := E8
  obtain ⟨rfl, N, n1, n2, n3, n4, n5, n6⟩ := NewArr.mv _ T5 s _ _ hh5.symm (Vm.Alike.refl _) rfl e8
  rw [hh5] at z8
  have hB1 := hB.keep X8.warmed.alike (n6 _ _ hB.1)
  have hne : s.heap.size ≠ a := (Nat.ne_of_lt (Array.getElem?_eq_some_iff.mp hB.1).1).symm
  have c9 : Steps p.tables e below (s₁.setTop (entryFrame m #[.ref a, .ref b, .int (Int32.ofNat o), .int (Int32.ofNat len), .null] 6)) (T8.setTop (mkF m 39 #[.val (.ref a), .val (.ref b), .val (.int (Int32.ofNat o)), .val (.int (Int32.ofNat len)), .val .null, .unset] [.ref s.heap.size])) := g8
  have c10 : Steps p.tables e below (s₁.setTop (entryFrame m #[.ref a, .ref b, .int (Int32.ofNat o), .int (Int32.ofNat len), .null] 6)) (T8.setTop (mkF m 45 #[.val (.ref a), .val (.ref b), .val (.int (Int32.ofNat o)), .val (.int (Int32.ofNat len)), .val .null, .val (.ref s.heap.size)] [.int (Int32.ofNat N.slots.size), .ref s.heap.size, .ref a])) := by
    have hc : Steps p.tables e below (s₁.setTop (entryFrame m #[.ref a, .ref b, .int (Int32.ofNat o), .int (Int32.ofNat len), .null] 6)) (T8.setTop (mkF m 45 #[.val (.ref a), .val (.ref b), .val (.int (Int32.ofNat o)), .val (.int (Int32.ofNat len)), .val .null, .val (.ref s.heap.size)] [.int (Int32.ofNat len), .ref s.heap.size, .ref a])) := c9.trans (by
      refine XS.astore X8.here hexec rfl (hb hbytes d39) rfl rfl rfl ?_
      refine XS.aloadN X8.here hexec rfl (hb hbytes d41) rfl rfl ?_
      refine XS.aload X8.here hexec rfl (hb hbytes d42) rfl rfl ?_
      refine XS.iloadN X8.here hexec rfl (hb hbytes d44) rfl ?_
      exact Steps.refl _)
    rw [n4]; exact hc
  obtain ⟨v11, T11, X11, E11, g11⟩ := X8.callS hexec (CodL.law l s.heap.size N) hown (wks W (staticW "java/lang/String" 47 CodL.yN)) (wk W CodL.tab) (W := 1) (Nat.le_of_ble_eq_true rfl) (Nat.le_of_ble_eq_true rfl) (Nat.le_refl _) (by show 0 + len + 0 ≤ len; omega) (g := (mkF m 45 #[.val (.ref a), .val (.ref b), .val (.int (Int32.ofNat o)), .val (.int (Int32.ofNat len)), .val .null, .val (.ref s.heap.size)] [.int (Int32.ofNat N.slots.size), .ref s.heap.size, .ref a])) rfl (by rw [hml]; rfl) c10 (argsL := [.ref s.heap.size, .int (Int32.ofNat N.slots.size)]) (rest := [.ref a]) rfl rfl (by show 2 * 0 + (1 + 0) ≤ _; decide) (hb hbytes d45) (⟨rfl, n1⟩)
  obtain ⟨rfl, q11⟩ := E11
  have hB11 := hB1.mv (X8.warmed.alike.symm.trans X11.warmed.alike) q11
  have c12 : Steps p.tables e below (s₁.setTop (entryFrame m #[.ref a, .ref b, .int (Int32.ofNat o), .int (Int32.ofNat len), .null] 6)) (T11.setTop (mkF m 48 #[.val (.ref a), .val (.ref b), .val (.int (Int32.ofNat o)), .val (.int (Int32.ofNat len)), .val .null, .val (.ref s.heap.size)] [.int 0, .ref a])) := g11
  obtain ⟨T13, X13, p13, bl13, sl13, st13⟩ := X11.finit hexec hown (wk W (.fieldLink "java/lang/String" 15 "java/lang/String" "coder" "B")) (Or.inr ⟨_, (wk W (.laysFinal "java/lang/String" "java/lang/String" "coder" "B"))⟩) (Or.inl ⟨rfl, hnm⟩) f2 (Or.inl rfl) hB11 (t := .byte) (by decide +kernel) rfl (g := (mkF m 48 #[.val (.ref a), .val (.ref b), .val (.int (Int32.ofNat o)), .val (.int (Int32.ofNat len)), .val .null, .val (.ref s.heap.size)] [.int 0, .ref a])) rfl (rest := []) rfl (hb hbytes d48)
  have c14 : Steps p.tables e below (s₁.setTop (entryFrame m #[.ref a, .ref b, .int (Int32.ofNat o), .int (Int32.ofNat len), .null] 6)) (T13.setTop (mkF m 54 #[.val (.ref a), .val (.ref b), .val (.int (Int32.ofNat o)), .val (.int (Int32.ofNat len)), .val .null, .val (.ref s.heap.size)] [.ref s.heap.size, .ref a])) := (c12.trans (st13 _ (Steps.refl _))).trans (by
    refine XS.aloadN X13.here hexec rfl (hb hbytes d51) rfl rfl ?_
    refine XS.aload X13.here hexec rfl (hb hbytes d52) rfl rfl ?_
    exact Steps.refl _)
  obtain ⟨T15, X15, p15, bl15, sl15, st15⟩ := X13.finit hexec hown (wk W (.fieldLink "java/lang/String" 9 "java/lang/String" "value" "[B")) (Or.inr ⟨_, (wk W (.laysFinal "java/lang/String" "java/lang/String" "value" "[B"))⟩) (Or.inl ⟨rfl, hnm⟩) f1 (Or.inl rfl) bl13 (t := (.array .byte)) (by decide +kernel) rfl (g := (mkF m 54 #[.val (.ref a), .val (.ref b), .val (.int (Int32.ofNat o)), .val (.int (Int32.ofNat len)), .val .null, .val (.ref s.heap.size)] [.ref s.heap.size, .ref a])) rfl (rest := []) rfl (hb hbytes d54)
  have c16 : Steps p.tables e below (s₁.setTop (entryFrame m #[.ref a, .ref b, .int (Int32.ofNat o), .int (Int32.ofNat len), .null] 6)) (T15.setTop (mkF m 57 #[.val (.ref a), .val (.ref b), .val (.int (Int32.ofNat o)), .val (.int (Int32.ofNat len)), .val .null, .val (.ref s.heap.size)] [])) := c14.trans (st15 _ (Steps.refl _))
  have ap := apart (Or.inr ⟨_, (wk W (.laysFinal "java/lang/String" "java/lang/String" "value" "[B"))⟩) (Or.inr ⟨_, (wk W (.laysFinal "java/lang/String" "java/lang/String" "coder" "B"))⟩) f1 f2 (t₁ := .array .byte) (t₂ := .byte) (by decide +kernel) (by decide +kernel) (by decide)
  have al := X8.warmed.alike.symm.trans X15.warmed.alike
  have n7 : T11.heap[s.heap.size]? = some N := by rw [q11]; exact n1.1
  exact ⟨T15, none, _, _, _, X15, by simp, rfl, by omega, (fun _ => rfl), ⟨rfl, _, N, bl15, ((Same.refl D _).set _ (by simp)).set _ (by simp), sl15, (Cell.slots_setSlot_ne _ ap).trans sl13, n1.keep al (p15.other hne (p13.other hne n7)), n2, by rw [al.findClass]; exact n3, n4, n5, fun y c h1 h2 => p15.other h1 (p13.other h1 (by rw [q11]; exact n6 y c h2)), by rw [p15.2.2, p13.2.2, q11]; exact z8⟩, fun fs hl => c16.trans (X15.returnOut hexec hret (hb hbytes d57) hl)⟩
end New4
namespace New1
def yN : MethodName := ⟨"java/lang/String", "<init>", "([C)V"⟩
abbrev yB : ByteArray := jdk_42_method_3_code
theorem d0 : decode yB 0 = .ok (.aload_n 0, 1) := by decide +kernel
theorem d1 : decode yB 1 = .ok (.aload_n 1, 1) := by decide +kernel
theorem d2 : decode yB 2 = .ok (.iconst 0, 1) := by decide +kernel
theorem d3 : decode yB 3 = .ok (.aload_n 1, 1) := by decide +kernel
theorem d4 : decode yB 4 = .ok (.arraylength, 1) := by decide +kernel
theorem d5 : decode yB 5 = .ok (.aconst_null, 1) := by decide +kernel
theorem d6 : decode yB 6 = .ok (.invokespecial 27, 3) := by decide +kernel
theorem d9 : decode yB 9 = .ok (.return_, 1) := by decide +kernel
def site : List Cond := [New4.tab] ++ initW "java/lang/String" 27 New4.yN
def tab : Cond := tabOf yN yB 2 none site
def P (a : Addr) (D : Cell) (fV fC : Field) (b : Addr) (A : Cell) (z : Int32) (args : Array Value) (s : State) : Prop := args = #[.ref a, .ref b] ∧ Blank "java/lang/String" a D s ∧ Found "java/lang/String" "value" "[B" fV s ∧ Found "java/lang/String" "coder" "B" fC s ∧ Ch b A s ∧ StaticIs s "java/lang/String" "COMPACT_STRINGS" "Z" (.int z) ∧ ¬ z = 0 ∧ 0 < A.slots.size ∧ A.slots.size ≤ 536870912 ∧ ∀ i, i < A.slots.size → ¬ 255 < cv A i
def E (a : Addr) (D : Cell) (fV fC : Field) (A : Cell) (r : Option Value) (s u : State) : Prop := Got a D fV fC A 0 A.slots.size r s u
/-- new String(chars), not empty, no char above 255: a Latin-1 String of their low bytes -/
theorem law (l : Launch) (a : Addr) (D : Cell) (fV fC : Field) (b : Addr) (A : Cell) (z : Int32) : Law l yN 2 1 3 52 yB 2 none site (P a D fV fC b A z) (E a D fV fC A) [⟨a, fC.slot⟩, ⟨a, fV.slot⟩] 1 A.slots.size := by
  refine Law.of_walk (plainFor_of_name (by decide +kernel)) (by decide +kernel) (by decide +kernel) (by decide) (fun _ _ h => by rw [h.1]; rfl) (fun _ U U' hal hh h => ⟨h.1, h.2.1.mv hal hh, h.2.2.1.al hal, h.2.2.2.1.al hal, h.2.2.2.2.1.mv hal hh, h.2.2.2.2.2.1.there hal hh, h.2.2.2.2.2.2⟩) (fun r U U' V V' h1 hal h2 h => Got.mv r U U' V V' h1 hal h2 h) ?_
  intro p e s m args below meth c s₁ X0 hexec hbytes hml hret hlk hnm hown hh0 W hP
  obtain ⟨rfl, hB, f1, f2, hA, s1, hz, l0, l2, hp⟩ := hP
  have c1 : Steps p.tables e below (s₁.setTop (entryFrame m #[.ref a, .ref b] 2)) (s₁.setTop (mkF m 0 #[.val (.ref a), .val (.ref b)] [])) := entry rfl
  have c2 : Steps p.tables e below (s₁.setTop (entryFrame m #[.ref a, .ref b] 2)) (s₁.setTop (mkF m 6 #[.val (.ref a), .val (.ref b)] [.null, .int (Int32.ofNat A.slots.size), .int 0, .ref b, .ref a])) := c1.trans (by
    refine XS.aloadN X0.here hexec rfl (hb hbytes d0) rfl rfl ?_
    refine XS.aloadN X0.here hexec rfl (hb hbytes d1) rfl rfl ?_
    refine iconstV X0.here hexec rfl 0 (hb hbytes d2) (by decide) ?_
    refine XS.aloadN X0.here hexec rfl (hb hbytes d3) rfl rfl ?_
    refine X0.alen hexec (hA.1.mv X0.warmed.alike hh0) rfl rfl (hb hbytes d4) ?_
    refine XS.aconstNull X0.here hexec rfl (hb hbytes d5) ?_
    exact Steps.refl _)
  obtain ⟨v3, T3, X3, E3, g3⟩ := X0.callN hexec (New4.law l a D fV fC b A z 0 A.slots.size) rfl hown (wks W (initW "java/lang/String" 27 New4.yN)) (W New4.tab (by simp only [site, List.mem_cons, List.mem_append, true_or, or_true])) (W := 0) (Nat.le_of_ble_eq_true rfl) (Nat.le_of_ble_eq_true rfl) (Nat.le_refl _) (by show 0 + A.slots.size ≤ A.slots.size; omega) (g := (mkF m 6 #[.val (.ref a), .val (.ref b)] [.null, .int (Int32.ofNat A.slots.size), .int (Int32.ofNat 0), .ref b, .ref a])) rfl (by rw [hml]; rfl) c2 (argsL := [.ref b, .int (Int32.ofNat 0), .int (Int32.ofNat A.slots.size), .null]) (rest := []) rfl rfl (by show 2 * 0 + 0 ≤ _; decide) (hb hbytes d6) (⟨rfl, hB.mv X0.warmed.alike hh0, f1.al X0.warmed.alike, f2.al X0.warmed.alike, hA.mv X0.warmed.alike hh0, s1.there X0.warmed.alike hh0, hz, l0, by omega, l2, fun i hi => by rw [Nat.zero_add]; exact hp i hi⟩)
  have e0 := Got.mv _ s₁ s _ _ hh0.symm (Vm.Alike.refl _) rfl E3
  obtain rfl := e0.1
  have c4 : Steps p.tables e below (s₁.setTop (entryFrame m #[.ref a, .ref b] 2)) (T3.setTop (mkF m 9 #[.val (.ref a), .val (.ref b)] [])) := g3
  exact ⟨T3, none, _, _, _, X3, by simp, rfl, by omega, (fun _ => rfl), e0, fun fs hl => c4.trans (X3.returnOut hexec hret (hb hbytes d9) hl)⟩
theorem pays {l : Launch} {R : Room} {p : Program} {e : Env} {below : List Frame} {s : State} {sargs : Array Value} {len W : Nat} (a : Addr) (D : Cell) (fV fC : Field) (b : Addr) (A : Cell) (z : Int32) (htab : tab.before sargs s = true) (hfr : 4 ≤ R.frames) (hlo : W + 65 ≤ R.locals) :
    Back l R p e below s sargs yN len W (fun A₁ a₁ => A₁.cells + 1 ≤ R.cells ∧ A₁.slots + A.slots.size ≤ R.slots ∧ P a D fV fC b A z a₁ A₁.U) (fun A₁ _ v₁ B₁ => E a D fV fC A v₁ A₁.U B₁.U ∧ B₁.locs = A₁.locs ++ [⟨a, fC.slot⟩, ⟨a, fV.slot⟩] ∧ B₁.cells = A₁.cells + 1 ∧ B₁.slots = A₁.slots + A.slots.size) :=
  (law l a D fV fC b A z).pays htab hfr (by omega)
end New1
/-- the byte, read back as charAt reads it, is the char -/
theorem lo8_mask {x : Int32} (h0 : ¬ x < 0) (h1 : ¬ 255 < x) : lo8 x &&& 255 = x := by
  have t : ∀ k : Fin 256, lo8 (Int32.ofNat k.val) &&& 255 = Int32.ofNat k.val := by decide +kernel
  rw [Int32.lt_iff_toInt_lt] at h0 h1
  have e0 : (0 : Int32).toInt = 0 := rfl
  have e1 : (255 : Int32).toInt = 255 := rfl
  obtain ⟨k, hk⟩ : ∃ k : Nat, x.toInt = k := ⟨x.toInt.toNat, by omega⟩
  have hx : x = Int32.ofNat k := Int32.toInt_inj.mp (by rw [hk, Int32.toInt_ofNat_small (by omega)])
  rw [hx]
  exact t ⟨k, by omega⟩
end StrChars
namespace StrChars.Road
open Jvm Sem ClassFile Op Lib Jvm.Stand Jvm.Free Jvm.Free.XT
open Jvm.Lib.Cold (StaticIs)
abbrev ST : String := "java/lang/String"
/-- every table word that New1's law asks, flat -/
abbrev words : List Jvm.Cond := [.code New1.yN New1.yB 2 none, .initialized ST, .methodLink ST 27 New4.yN, .instanceMethod New4.yN,
  .code New4.yN New4.yB 6 none, .fieldLink ST 38 ST "COMPACT_STRINGS" "Z", .laysFinal ST ST "value" "[B", .fieldLink ST 9 ST "value" "[B", .laysFinal ST ST "coder" "B", .fieldLink ST 15 ST "coder" "B",
  .methodLink ST 1 Lib.objectInit, .instanceMethod Lib.objectInit, .code Lib.objectInit ⟨#[0xb1]⟩ 1 none, .methodLink ST 177 Cmp3.yN, .static Cmp3.yN, .methodLink ST 47 CodL.yN, .static CodL.yN,
  .code Cmp3.yN Cmp3.yB 6 (some (.array .byte)), .initialized U16, .arrayClass .byte, .methodLink U16 115 Cmp5.yN, .static Cmp5.yN, .code Cmp5.yN Cmp5.yB 7 (some .int), .code CodL.yN CodL.yB 2 (some .byte)]
theorem tab_of {a : Array Value} {s : State} (h : ∀ w ∈ words, w.before a s = true) : New1.tab.before a s = true := by
  have h5 : Cmp5.tab.before a s = true := unparts (wk h (.code Cmp5.yN Cmp5.yB 7 (some .int))) (wks h (.initialized Cmp5.yN.cls :: Cmp5.site))
  have hc : CodL.tab.before a s = true := unparts (wk h (.code CodL.yN CodL.yB 2 (some .byte))) (wks h (.initialized CodL.yN.cls :: CodL.site))
  have q5 : ∀ w ∈ Cmp5.tab :: words, w.before a s = true := fun w hw => (List.mem_cons.mp hw).elim (fun e => e ▸ h5) (h w)
  have h3 : Cmp3.tab.before a s = true := unparts (wk q5 (.code Cmp3.yN Cmp3.yB 6 (some (.array .byte)))) (wks q5 (.initialized Cmp3.yN.cls :: Cmp3.site))
  have q3 : ∀ w ∈ Cmp3.tab :: CodL.tab :: words, w.before a s = true := fun w hw => (List.mem_cons.mp hw).elim (fun e => e ▸ h3) fun hw => (List.mem_cons.mp hw).elim (fun e => e ▸ hc) (h w)
  have h4 : New4.tab.before a s = true := unparts (wk q3 (.code New4.yN New4.yB 6 none)) (wks q3 (.initialized New4.yN.cls :: New4.site))
  have q4 : ∀ w ∈ New4.tab :: words, w.before a s = true := fun w hw => (List.mem_cons.mp hw).elim (fun e => e ▸ h4) (h w)
  exact unparts (wk q4 (.code New1.yN New1.yB 2 none)) (wks q4 (.initialized New1.yN.cls :: New1.site))
/-- the words ride from the start Z to the walk's own state -/
theorem moved {Z s : State} {a0 args : Array Value} (hZ : Z.Warmed39 s.vm) (hw : ∀ d ∈ words, d.before a0 Z = true) : ∀ d ∈ words, d.before args s = true := fun d hd => by
  have q := hw d hd
  have t : ∀ d ∈ words, d = .arrayClass .byte ∨ (d.onTables && d.keepsFace) = true := by decide +kernel
  rcases t d hd with rfl | t
  · exact RoadKit.mvA hZ q
  · exact RoadKit.mv hZ q t
/-- WHAT COMES BACK, over the tables of the start Z: h the heap at the call, h' behind it -/
def Q (Z : State) (x : Addr) (A : Cell) (h : Heap) (v : Option Value) (h' : Heap) (L : List Loc) : Prop := v = none ∧ (∀ y ∈ L, y.base = x) ∧ RoadKit.Keep h h' [x] ∧ h'.size = h.size + 1 ∧ RoadKit.Exa Z h' x ST ∧ RoadKit.Fld Z h' x ST "value" "[B" (.ref h.size) ∧ RoadKit.Fld Z h' x ST "coder" "B" (.int 0) ∧
  (∃ V : Cell, RoadKit.Arr Z h' h.size V .byte ∧ V.vm = .none ∧ Z.vm.findClass "[B" = some V.cls ∧ V.slots.size = A.slots.size ∧ ∀ j, j < A.slots.size → V.slots[j]? = some (.int (lo8 (cv A j)))) ∧
  ∀ (O n d : String) (w : Value), RoadKit.Fld Z h x O n d w → RoadKit.slotOf Z O n d ≠ RoadKit.slotOf Z ST "value" "[B" → RoadKit.slotOf Z O n d ≠ RoadKit.slotOf Z ST "coder" "B" → RoadKit.Fld Z h' x O n d w
/-- **new String(chars) AT A CALL, IN THE ROAD'S FORM**: for specialBack behind newO: x the fresh String, b the char[] with the cell A -/
theorem back {p : Program} {l : Launch} {e : Env} {R : Room} {s : State} {args : Array Value} {below : List Frame} {len W : Nat} {Z : State} {a0 : Array Value} {h : Heap} (hZ : Z.Warmed39 s.vm) (hw : ∀ d ∈ words, d.before a0 Z = true) {kI : Nat} (wi : (Jvm.Cond.instantiable ST kI).before a0 Z = true)
    {x b : Addr} {A : Cell} {z : Int32} {v0 c0 : Value} (E : RoadKit.Exa Z h x ST) (V : RoadKit.Fld Z h x ST "value" "[B" v0) (C : RoadKit.Fld Z h x ST "coder" "B" c0) (K : RoadKit.Arr Z h b A .char) (hty : Typed .char A) (S : RoadKit.Sta Z h ST "COMPACT_STRINGS" "Z" (.int z)) (hz : ¬ z = 0)
    (l0 : 0 < A.slots.size) (l2 : A.slots.size ≤ 536870912) (hp : ∀ i, i < A.slots.size → ¬ 255 < cv A i) (hfr : 4 ≤ R.frames) (hlo : W + 65 ≤ R.locals) :
    Back l R p e below s args New1.yN len W (fun P a => a = #[.ref x, .ref b] ∧ P.U.heap = h ∧ P.cells + 1 ≤ R.cells ∧ P.slots + A.slots.size ≤ R.slots)
      (fun P _ v B => ∃ L, Q Z x A h v B.U.heap L ∧ B.locs = P.locs ++ L ∧ B.cells = P.cells + 1 ∧ B.slots = P.slots + A.slots.size) := by
  intro m meth c P g ig mk a X hg hsize hdg hW hn hp'
  obtain ⟨rfl, rfl, r1, r2⟩ := hp'
  have al : Z.vm.Alike P.U.vm := hZ.alike.trans X.warmed.alike
  obtain ⟨D, cfV, kV, iV, fV, hD, gV, stV, knV, obV, asV, slV⟩ := id V
  obtain ⟨D', cfC, kC, iC, fC, hD', gC, stC, -, -, asC, slC⟩ := id C
  cases hD.symm.trans hD'
  obtain ⟨D2, kD, e1, e2, e3, e4, e5⟩ := id E
  cases hD.symm.trans e1
  obtain ⟨c2, k2, i1, i2, i3, -⟩ := Cond.instantiable_spec wi
  cases e2.symm.trans i1
  cases e3.symm.trans i2
  obtain ⟨kU, u1, u2⟩ := al.2.2 _ _ e3
  have hB : Blank ST x D P.U := ⟨hD, ⟨knV, fun q hq => by rw [hq] at obV; cases obV⟩, by rw [al.findClass]; exact e2, kU, u1, by rw [u2]; exact i3, by rw [u2]; exact e5 i3⟩
  have F1 : Found ST "value" "[B" fV P.U := ⟨SBG.found_only al ⟨cfV, kV, iV, gV⟩, stV⟩
  have F2 : Found ST "coder" "B" fC P.U := ⟨SBG.found_only al ⟨cfC, kC, iC, gC⟩, stC⟩
  have hA : Ch b A P.U := ⟨⟨K.1, State.isArrayOf_alike al K.2.1, K.2.2, by omega⟩, hty⟩
  have hS : StaticIs P.U ST "COMPACT_STRINGS" "Z" (.int z) := by
    obtain ⟨cfS, iS, kS, fS, st, cS, t1, t2, t3, t4, t5, t6, t7⟩ := S
    exact StaticIs.there (s := { Z with heap := P.U.heap }) ⟨cfS, iS, kS, fS, st, cS, t1, t2, t3, t4, t5, (fun q => by rw [q] at t6; cases t6), t7⟩ al rfl
  obtain ⟨v, B, X', ⟨⟨hv, E', V', q1, q2, q3, q4, q5, q6, q7, q8, q9, q10, q11⟩, hl, hc, hs⟩, st⟩ := New1.pays x D fV fC b A z (tab_of (moved hZ hw)) hfr hlo m meth c P g ig mk _ X hg hsize hdg hW hn ⟨r1, r2, rfl, hB, F1, F2, hA, hS, hz, l0, l2, hp⟩
  have al' : Z.vm.Alike B.U.vm := hZ.alike.trans X'.warmed.alike
  have hsz : E'.slots.size = D.slots.size := by
    obtain ⟨-, -, -, kB, w1, w2, w3⟩ := q1
    obtain ⟨kB', y1, y2⟩ := al'.2.2 _ _ e3
    rw [q2.2.1] at w1
    cases w1.symm.trans y1
    rw [w3, e5 i3, y2]
  refine ⟨v, B, X', ⟨_, ⟨hv, ?_, ⟨by omega, fun y cy hy hn' => q10 y cy (by simpa using hn') hy, fun y cy hy => ?_⟩, q11, ⟨E', _, q1.1, by rw [q2.2.1]; exact e2, by rw [q2.2.1]; exact e3, by rw [q2.1]; exact obV, fun _ => by rw [hsz]; exact e5 i3⟩,
    ⟨E', cfV, kV, iV, fV, q1.1, gV, stV, by rw [q2.1]; exact knV, by rw [q2.1]; exact obV, by rw [q2.2.1]; exact asV, q3⟩, ⟨E', cfC, kC, iC, fC, q1.1, gC, stC, by rw [q2.1]; exact knV, by rw [q2.1]; exact obV, by rw [q2.2.1]; exact asC, q4⟩,
    ⟨V', ⟨q5.1, State.isArrayOf_alike al'.symm q5.2.1, q5.2.2.1⟩, q6, by rw [← al'.findClass]; exact q7, q8, fun j hj => by have := q9 j hj; rwa [Nat.zero_add] at this⟩, fun O n d w F n1 n2 => ?_⟩, hl, hc, hs⟩, st⟩
  · intro y hy
    simp only [List.mem_cons, List.not_mem_nil, or_false] at hy
    rcases hy with rfl | rfl <;> rfl
  · by_cases q : y = x
    · subst q
      cases hD.symm.trans hy
      exact ⟨E', q1.1, q2.2.1, q2.1, hsz⟩
    · exact ⟨cy, q10 y cy q hy, rfl, rfl, rfl⟩
  · obtain ⟨D3, cf, k, i, f, g1, g2, g3, g4, g5, g6, g7⟩ := F
    cases hD.symm.trans g1
    simp only [RoadKit.slotOf, g2, gV, gC, Option.map_some, Option.getD_some] at n1 n2
    exact ⟨E', cf, k, i, f, q1.1, g2, g3, by rw [q2.1]; exact g4, by rw [q2.1]; exact g5, by rw [q2.2.1]; exact g6, by rw [q2.2.2 f.slot (by simp [n1, n2])]; exact g7⟩
end StrChars.Road
namespace StrChars.Road
open Jvm Sem ClassFile Op Lib Jvm.Stand Jvm.Free Jvm.Free.XT
/-- WHAT COMES BACK, the byte[] as a list of values -/
def QA (Z : State) (x : Addr) (zn : Int32) (cs : List Int32) (h : Heap) (v : Option Value) (h' : Heap) (L : List Loc) : Prop := v = none ∧ (∀ y ∈ L, y.base = x) ∧ RoadKit.Keep h h' [x] ∧ h'.size = h.size + 1 ∧ RoadKit.Exa Z h' x ST ∧ RoadKit.Fld Z h' x ST "value" "[B" (.ref h.size) ∧ RoadKit.Fld Z h' x ST "coder" "B" (.int 0) ∧
  (∃ kb, Z.vm.findClass "[B" = some kb ∧ RoadKit.Arv Z h' h.size kb .byte zn (cs.map fun c => .int (lo8 c)) (.int 0)) ∧
  ∀ (O n d : String) (w : Value), RoadKit.Fld Z h x O n d w → RoadKit.slotOf Z O n d ≠ RoadKit.slotOf Z ST "value" "[B" → RoadKit.slotOf Z O n d ≠ RoadKit.slotOf Z ST "coder" "B" → RoadKit.Fld Z h' x O n d w
/-- **new String(chars) AT A CALL, THE ARRAYS AS LISTS**: the char[] at b holds cs, not empty, no char above 255 -/
theorem backArv {p : Program} {l : Launch} {e : Env} {R : Room} {s : State} {args : Array Value} {below : List Frame} {len W : Nat} {Z : State} {a0 : Array Value} {h : Heap} (hZ : Z.Warmed39 s.vm) (hw : ∀ d ∈ words, d.before a0 Z = true) {kI : Nat} (wi : (Jvm.Cond.instantiable ST kI).before a0 Z = true)
    {x b : Addr} {k : ClassId} {zn z : Int32} {cs : List Int32} {dv v0 c0 : Value} (E : RoadKit.Exa Z h x ST) (V : RoadKit.Fld Z h x ST "value" "[B" v0) (C : RoadKit.Fld Z h x ST "coder" "B" c0) (K : RoadKit.Arv Z h b k .char zn (cs.map Value.int) dv) (S : RoadKit.Sta Z h ST "COMPACT_STRINGS" "Z" (.int z)) (hz : ¬ z = 0)
    (hlen : zn.toNatClampNeg = cs.length) (h0 : 0 < cs.length) (hbig : cs.length ≤ 536870912) (hall : ∀ c ∈ cs, ¬ 255 < c) (hfr : 4 ≤ R.frames) (hlo : W + 65 ≤ R.locals) :
    Back l R p e below s args New1.yN len W (fun P a => a = #[.ref x, .ref b] ∧ P.U.heap = h ∧ P.cells + 1 ≤ R.cells ∧ P.slots + cs.length ≤ R.slots)
      (fun P _ v B => ∃ L, QA Z x zn cs h v B.U.heap L ∧ B.locs = P.locs ++ L ∧ B.cells = P.cells + 1 ∧ B.slots = P.slots + cs.length) := by
  obtain ⟨A, K1, K2, K3, K4, K5, K6⟩ := K
  have e : A.slots.size = cs.length := K3.trans hlen
  have hat : ∀ (i : Nat) (hi : i < cs.length), A.slots[i]? = some (.int cs[i]) := fun i hi => by rw [K5 i (by omega)]; simp [List.getD_eq_getElem?_getD, hi]
  have hcv : ∀ (i : Nat) (hi : i < cs.length), cv A i = cs[i] := fun i hi => by unfold cv; rw [hat i hi]
  have hty : Typed .char A := fun i v hv => by
    have hi : i < A.slots.size := (Array.getElem?_eq_some_iff.mp hv).1
    have q := K5 i hi
    rw [hv] at q
    rw [Option.some.inj q]
    exact K6 i hi
  refine Back.mono (back hZ hw wi E V C K1 hty S hz (by omega) (by omega) (fun i hi => by rw [hcv i (by omega)]; exact hall _ (List.getElem_mem _)) hfr hlo) (fun P a hp => ⟨hp.1, hp.2.1, hp.2.2.1, by rw [e]; exact hp.2.2.2⟩) (fun P a v B hp hq => ?_)
  obtain ⟨L, ⟨q1, q2, q3, q4, q5, q6, q7, ⟨V', v1, v2, v3, v4, v5⟩, q9⟩, hl, hc, hs⟩ := hq
  refine ⟨L, ⟨q1, q2, q3, q4, q5, q6, q7, ⟨V'.cls, v3, V', v1, rfl, by rw [v4, e, hlen], K4, fun i hi => ?_, fun i hi => ?_⟩, q9⟩, hl, hc, by rw [hs, e]⟩
  · have hi' : i < cs.length := by omega
    rw [v5 i (by omega), hcv i hi']; simp [List.getD_eq_getElem?_getD, hi']
  · have hi' : i < cs.length := by omega
    simp only [List.getD_eq_getElem?_getD, List.getElem?_map, List.getElem?_eq_getElem hi', Option.map_some, Option.getD_some]
    exact fits_lo8 _
end StrChars.Road
namespace StrChars.Road
open Jvm Sem ClassFile Op Lib Jvm.Stand Jvm.Free Jvm.Free.XT
/-- WHAT COMES BACK, in the writer's own shape -/
def QV (Z : State) (x : Addr) (N : Int32) (bs : List Int32) (h : Heap) (n0 : Nat) (v : Option Value) (h' : Heap) (L : List Loc) : Prop := v = none ∧ RoadKit.Fr n0 L ∧ RoadKit.Keep h h' [x] ∧ RoadKit.Exa Z h' x ST ∧ RoadKit.Fld Z h' x ST "coder" "B" (.int 0) ∧
  ∃ (t : Addr) (kb : ClassId), n0 ≤ t ∧ h.size ≤ t ∧ ¬ t = x ∧ RoadKit.Fld Z h' x ST "value" "[B" (.ref t) ∧ RoadKit.Arv Z h' t kb .byte N (bs.map Value.int) (.int 0)
/-- **new String(chars) AT A CALL, FOR THE WRITER**: a char[] of n known ints, each 0 to 255 -/
theorem backV {p : Program} {l : Launch} {e : Env} {R : Room} {s : State} {args : Array Value} {below : List Frame} {len W : Nat} {Z : State} {a0 : Array Value} {h : Heap} (hZ : Z.Warmed39 s.vm) (hw : ∀ d ∈ words, d.before a0 Z = true) {kI : Nat} (wi : (Jvm.Cond.instantiable ST kI).before a0 Z = true)
    {x b : Addr} {kC : ClassId} {cs bs : List Int32} {d v0 c0 : Value} {z N : Int32} {n n0 : Nat} (hx0 : n0 ≤ x) (hh0 : n0 ≤ h.size) (E : RoadKit.Exa Z h x ST) (V : RoadKit.Fld Z h x ST "value" "[B" v0) (C : RoadKit.Fld Z h x ST "coder" "B" c0) (K : RoadKit.Arv Z h b kC .char N (cs.map Value.int) d) (S : RoadKit.Sta Z h ST "COMPACT_STRINGS" "Z" (.int z)) (hz : ¬ z = 0)
    (hn : cs.length = n) (hN : N = Int32.ofNat n) (l0 : 0 < n) (l2 : n ≤ 4000) (hp : ∀ c ∈ cs, ¬ c < 0 ∧ ¬ (255 : Int32) < c) (hb : bs = cs.map (fun c => c.toInt8.toInt32)) (hfr : 4 ≤ R.frames) (hlo : W + 65 ≤ R.locals) :
    Back l R p e below s args (⟨"java/lang/String", "<init>", "([C)V"⟩ : MethodName) len W (fun P a => a = #[.ref x, .ref b] ∧ P.U.heap = h ∧ P.cells + 1 ≤ R.cells ∧ P.slots + n ≤ R.slots)
      (fun P _ v B => ∃ L, QV Z x N bs h n0 v B.U.heap L ∧ B.locs = P.locs ++ L ∧ B.cells = P.cells + 1 ∧ B.slots = P.slots + n) := by
  subst hn hN hb
  refine Back.mono (backArv hZ hw wi E V C K S hz (n32 (by omega)) l0 (by omega) (fun c hc => (hp c hc).2) hfr hlo) (fun P a hp => hp) (fun P a v B hp hq => ?_)
  obtain ⟨L, ⟨q1, q2, q3, q4, q5, q6, q7, ⟨kb, v1, v2⟩, q9⟩, hl, hc, hs⟩ := hq
  exact ⟨L, ⟨q1, fun y hy => by rw [q2 y hy]; exact hx0, q3, q5, q7, h.size, kb, hh0, Nat.le_refl _, Nat.ne_of_gt E.lt, q6, by rw [List.map_map]; exact v2⟩, hl, hc, hs⟩
end StrChars.Road
namespace StrChars
open Jvm Sem ClassFile Op Lib Jvm.Stand Jvm.Free.XT Jvm.Free.ALB Jvm.Free.JM Jvm.Free
open Jvm.Lib.Cold (StaticIs)
def hi8 (x : Int32) : Int32 := lo8 (x >>> ((8 : Int32) &&& 31))
/-- what StringUTF16.getChar makes of two bytes -/
def pairCh (u v : Int32) : Int32 := (((u &&& 255) <<< ((0 : Int32) &&& 31)) ||| ((v &&& 255) <<< ((8 : Int32) &&& 31))).toUInt32.toUInt16.toUInt32.toInt32
theorem shr0 (c : Int32) : c >>> ((0 : Int32) &&& 31) = c := by
  have e : ((0 : Int32) &&& 31) = 0 := by decide
  rw [e]
  apply Int32.toBitVec_inj.mp
  rw [Int32.toBitVec_shiftRight]
  have e1 : ((0 : Int32).toBitVec.smod 32) = 0#32 := by decide
  rw [e1, BitVec.sshiftRight_eq']
  exact BitVec.sshiftRight_zero
theorem lo8_and (x : Int32) : (lo8 x &&& 255).toBitVec.toNat = x.toBitVec.toNat % 256 := by
  have h : (lo8 x).toBitVec = (x.toBitVec.signExtend 8).signExtend 32 := by rw [lo8, Int8.toBitVec_toInt32, Int32.toBitVec_toInt8]
  rw [Int32.toBitVec_and, BitVec.toNat_and, h]
  have e : ((x.toBitVec.signExtend 8).signExtend 32).toNat % 256 = x.toBitVec.toNat % 256 := by
    rw [BitVec.toNat_signExtend]
    have hlt := x.toBitVec.isLt
    simp only [BitVec.toNat_setWidth, BitVec.toNat_signExtend]
    split <;> split <;> omega
  rw [← e]
  exact Nat.and_two_pow_sub_one_eq_mod _ 8
theorem pair_says {c : Int32} (h0 : ¬ c < 0) (h1 : ¬ 65535 < c) : pairCh (lo8 c) (hi8 c) = c := by
  rw [Int32.lt_iff_toInt_lt] at h0 h1
  have e0 : (0 : Int32).toInt = 0 := rfl
  have e1 : (65535 : Int32).toInt = 65535 := rfl
  have hc : c.toInt = c.toBitVec.toNat := by
    have := c.toBitVec.isLt
    have e : c.toInt = c.toBitVec.toInt := rfl
    rw [e] at h0 h1
    rw [e]
    rw [BitVec.toInt_eq_toNat_cond] at h0 h1 ⊢
    split at h0 <;> split <;> omega
  have hn : c.toBitVec.toNat < 65536 := by omega
  have a1 := lo8_and c
  have a2 : (hi8 c &&& 255).toBitVec.toNat = c.toBitVec.toNat / 256 := by
    rw [hi8, lo8_and]
    have e : ((8 : Int32) &&& 31) = 8 := by decide
    rw [e, Int32.toBitVec_shiftRight]
    have e2 : ((8 : Int32).toBitVec.smod 32) = 8#32 := by decide
    rw [e2, BitVec.sshiftRight_eq', BitVec.toNat_sshiftRight_of_msb_false (by rw [BitVec.msb_eq_false_iff_two_mul_lt]; omega)]
    show c.toBitVec.toNat >>> 8 % 256 = _
    rw [Nat.shiftRight_eq_div_pow]
    omega
  unfold pairCh
  apply Int32.toBitVec_inj.mp
  apply BitVec.eq_of_toNat_eq
  have f0 : ((0 : Int32) &&& 31) = 0 := by decide
  have f8 : ((8 : Int32) &&& 31) = 8 := by decide
  rw [f0, f8]
  have g : (((lo8 c &&& 255) <<< (0 : Int32)) ||| ((hi8 c &&& 255) <<< (8 : Int32))).toBitVec.toNat = c.toBitVec.toNat := by
    rw [Int32.toBitVec_or, Int32.toBitVec_shiftLeft, Int32.toBitVec_shiftLeft]
    have s0 : ((0 : Int32).toBitVec.smod 32) = 0#32 := by decide
    have s8 : ((8 : Int32).toBitVec.smod 32) = 8#32 := by decide
    rw [s0, s8, BitVec.toNat_or]
    simp only [BitVec.shiftLeft_eq', BitVec.toNat_shiftLeft, a1, a2]
    show (c.toBitVec.toNat % 256) <<< 0 % 2 ^ 32 ||| (c.toBitVec.toNat / 256) <<< 8 % 2 ^ 32 = _
    rw [Nat.shiftLeft_zero, Nat.mod_eq_of_lt (show c.toBitVec.toNat % 256 < 2 ^ 32 by omega), Nat.mod_eq_of_lt (show (c.toBitVec.toNat / 256) <<< 8 < 2 ^ 32 by rw [Nat.shiftLeft_eq]; omega), Nat.or_comm, ← Nat.shiftLeft_add_eq_or_of_lt (by omega), Nat.shiftLeft_eq]
    omega
  show BitVec.toNat (((((lo8 c &&& 255) <<< (0 : Int32)) ||| ((hi8 c &&& 255) <<< (8 : Int32))).toBitVec.setWidth 16).setWidth 32) = _
  rw [BitVec.toNat_setWidth, BitVec.toNat_setWidth, g]
  omega
end StrChars
namespace StrChars
open Jvm Sem ClassFile Op Lib Jvm.Stand Jvm.Free.XT Jvm.Free.ALB Jvm.Free.JM Jvm.Free
open Jvm.Lib.Cold (StaticIs)
theorem shr1 {n : Nat} (h : 2 * n < 2 ^ 31) : Int32.ofNat (2 * n) >>> ((1 : Int32) &&& 31) = Int32.ofNat n := by
  have e : ((1 : Int32) &&& 31) = 1 := by decide
  rw [e]
  apply Int32.toBitVec_inj.mp
  rw [Int32.toBitVec_shiftRight]
  have e1 : ((1 : Int32).toBitVec.smod 32) = 1#32 := by decide
  have hm : (BitVec.ofNat 32 (2 * n)).toNat = 2 * n := by rw [BitVec.toNat_ofNat, Nat.mod_eq_of_lt (by omega)]
  rw [e1, BitVec.sshiftRight_eq']
  apply BitVec.eq_of_toNat_eq
  show ((BitVec.ofNat 32 (2 * n)).sshiftRight 1).toNat = (BitVec.ofNat 32 n).toNat
  rw [BitVec.toNat_sshiftRight_of_msb_false (by rw [BitVec.msb_eq_false_iff_two_mul_lt, hm]; omega), hm, BitVec.toNat_ofNat, Nat.shiftRight_eq_div_pow]
  omega
/-- charAt's cast of a byte read back -/
def chr8 (u : Int32) : Int32 := (u &&& 255).toUInt32.toUInt16.toUInt32.toInt32
theorem chr8_lo8 {c : Int32} (h0 : ¬ c < 0) (h1 : ¬ 255 < c) : chr8 (lo8 c) = c := by
  have t : ∀ k : Fin 256, (Int32.ofNat k.val).toUInt32.toUInt16.toUInt32.toInt32 = Int32.ofNat k.val := by decide +kernel
  unfold chr8
  rw [lo8_mask h0 h1]
  rw [Int32.lt_iff_toInt_lt] at h0 h1
  have e0 : (0 : Int32).toInt = 0 := rfl
  have e1 : (255 : Int32).toInt = 255 := rfl
  obtain ⟨k, hk⟩ : ∃ k : Nat, c.toInt = k := ⟨c.toInt.toNat, by omega⟩
  have hx : c = Int32.ofNat k := Int32.toInt_inj.mp (by rw [hk, Int32.toInt_ofNat_small (by omega)])
  rw [hx]
  exact t ⟨k, by omega⟩
theorem narrow_ch {c : Int32} (h0 : ¬ c < 0) (h1 : ¬ 65535 < c) : narrow .char (.int c) = .int c := by
  have q : narrow .char (.int (pairCh (lo8 c) (hi8 c))) = .int (pairCh (lo8 c) (hi8 c)) := narrow_c _
  rwa [pair_says h0 h1] at q
/-- the array's cell V codes the n chars f 0 .. f (n - 1) by the coder cd, as the JDK does: coder 1 just where some char is above 255 -/
def Cod (cd : Int32) (n : Nat) (f : Nat → Int32) (V : Cell) : Prop := (cd = 0 ∧ V.slots.size = n ∧ ∀ j, j < n → V.slots[j]? = some (.int (lo8 (f j))) ∧ ¬ 255 < f j) ∨ (cd = 1 ∧ V.slots.size = 2 * n ∧ (∀ j, j < n → V.slots[2 * j]? = some (.int (lo8 (f j))) ∧ V.slots[2 * j + 1]? = some (.int (hi8 (f j)))) ∧ ∃ j, j < n ∧ 255 < f j)
theorem Cod.cd {cd : Int32} {n : Nat} {f : Nat → Int32} {V : Cell} (h : Cod cd n f V) : cd = 0 ∨ cd = 1 := h.imp (fun q => q.1) fun q => q.1
theorem Cod.len {cd : Int32} {n : Nat} {f : Nat → Int32} {V : Cell} (h : Cod cd n f V) (hs : V.slots.size < 2 ^ 31) : Int32.ofNat V.slots.size >>> (cd &&& 31) = Int32.ofNat n := by
  rcases h with ⟨rfl, h, -⟩ | ⟨rfl, h, -⟩
  · rw [shr0, h]
  · rw [h, shr1 (by omega)]
/-- **x is a String of the n chars f 0 .. f (n - 1)**, Latin-1 or UTF-16; its array at t has the cell V -/
def Txt (x t : Addr) (V : Cell) (cd : Int32) (n : Nat) (f : Nat → Int32) (U : State) : Prop := Exact "java/lang/String" x U ∧ Has x "java/lang/String" "value" "[B" (.ref t) U ∧ Has x "java/lang/String" "coder" "B" (.int cd) U ∧ XT.Arr .byte t V U ∧ Cod cd n f V ∧ ∀ j, j < n → ¬ f j < 0 ∧ ¬ 65535 < f j
theorem Txt.mv {x t : Addr} {V : Cell} {cd : Int32} {n : Nat} {f : Nat → Int32} {U U' : State} (h : Txt x t V cd n f U) (hal : U.vm.Alike U'.vm) (hh : U'.heap = U.heap) : Txt x t V cd n f U' := ⟨h.1.mv hal hh, h.2.1.mv hal hh, h.2.2.1.mv hal hh, h.2.2.2.1.mv hal hh, h.2.2.2.2⟩
namespace Cdr
def yN : MethodName := ⟨"java/lang/String", "coder", "()B"⟩
abbrev yB : ByteArray := jdk_42_method_152_code
theorem d0 : decode yB 0 = .ok (.getstatic 38, 3) := by decide +kernel
theorem d3 : decode yB 3 = .ok (.ifCond (.eq) 10, 3) := by decide +kernel
theorem d6 : decode yB 6 = .ok (.aload_n 0, 1) := by decide +kernel
theorem d7 : decode yB 7 = .ok (.getfield 15, 3) := by decide +kernel
theorem d10 : decode yB 10 = .ok (.goto 4, 3) := by decide +kernel
theorem d14 : decode yB 14 = .ok (.ireturn, 1) := by decide +kernel
def site : List Cond := [.fieldLink "java/lang/String" 38 "java/lang/String" "COMPACT_STRINGS" "Z", .fieldLink "java/lang/String" 15 "java/lang/String" "coder" "B"]
def tab : Cond := tabOf yN yB 1 (some .byte) site
def P (x : Addr) (cd z : Int32) (args : Array Value) (s : State) : Prop := args = #[.ref x] ∧ Has x "java/lang/String" "coder" "B" (.int cd) s ∧ (cd = 0 ∨ cd = 1) ∧ StaticIs s "java/lang/String" "COMPACT_STRINGS" "Z" (.int z) ∧ ¬ z = 0
def E (cd : Int32) (r : Option Value) (s u : State) : Prop := XT.PureE (some (.int cd)) r s u
theorem law (l : Launch) (x : Addr) (cd z : Int32) : Law l yN 1 0 0 0 yB 1 (some .byte) site (P x cd z) (E cd) [] 0 0 := by
  refine Law.of_walk (plainFor_of_name (by decide +kernel)) (by decide +kernel) (by decide +kernel) (by decide) (fun _ _ h => by rw [h.1]; rfl) (fun _ U U' hal hh h => ⟨h.1, h.2.1.mv hal hh, h.2.2.1, h.2.2.2.1.there hal hh, h.2.2.2.2⟩) (fun r U U' V V' h1 hal h2 h => XT.PureE.mv r U U' V V' h1 hal h2 h) ?_
  intro p e s m args below meth c s₁ X0 hexec hbytes hml hret hlk hnm hown hh0 W hP
  obtain ⟨rfl, hx, hc, s1, hz⟩ := hP
  have c1 : Steps p.tables e below (s₁.setTop (entryFrame m #[.ref x] 1)) (s₁.setTop (mkF m 0 #[.val (.ref x)] [])) := entry rfl
  obtain ⟨T2, X2, q2, st2⟩ := X0.sget hexec hown (wk W (.fieldLink "java/lang/String" 38 "java/lang/String" "COMPACT_STRINGS" "Z")) s1 (fun _ _ h => by rw [hh0]; exact h) (g := (mkF m 0 #[.val (.ref x)] [])) rfl (hb hbytes d0)
  have hh2 := q2.trans hh0
  have c3 : Steps p.tables e below (s₁.setTop (entryFrame m #[.ref x] 1)) (T2.setTop (mkF m 7 #[.val (.ref x)] [.ref x])) := (c1.trans (st2 _ (Steps.refl _))).trans (by
    refine XS.ifNo X2.here hexec rfl (hb hbytes d3) rfl (i0_eq_f hz) ?_
    refine XS.aloadN X2.here hexec rfl (hb hbytes d6) rfl rfl ?_
    exact Steps.refl _)
  obtain ⟨T4, X4, q4, st4⟩ := X2.hget hexec hown (wk W (.fieldLink "java/lang/String" 15 "java/lang/String" "coder" "B")) (hx.mv X2.warmed.alike hh2) (g := (mkF m 7 #[.val (.ref x)] [.ref x])) rfl (rest := []) rfl (hb hbytes d7)
  have c5 : Steps p.tables e below (s₁.setTop (entryFrame m #[.ref x] 1)) (T4.setTop (mkF m 14 #[.val (.ref x)] [.int cd])) := (c3.trans (st4 _ (Steps.refl _))).trans (by
    refine XS.goto X4.here hexec rfl (pc0 := 10) rfl (hb hbytes d10) (by decide) rfl ?_
    exact Steps.refl _)
  exact ⟨T4, some (.int cd), _, _, _, X4, rfl, rfl, rfl, (fun h => by cases h), ⟨rfl, q4.trans hh2⟩, fun fs hl => c5.trans (X4.ireturnOut hexec hret (by rcases hc with rfl | rfl <;> rfl) (Or.inr (Or.inr (Or.inl rfl))) (hb hbytes d14) hl)⟩
end Cdr
namespace Len
def yN : MethodName := ⟨"java/lang/String", "length", "()I"⟩
abbrev yB : ByteArray := jdk_42_method_54_code
theorem d0 : decode yB 0 = .ok (.aload_n 0, 1) := by decide +kernel
theorem d1 : decode yB 1 = .ok (.getfield 9, 3) := by decide +kernel
theorem d4 : decode yB 4 = .ok (.arraylength, 1) := by decide +kernel
theorem d5 : decode yB 5 = .ok (.aload_n 0, 1) := by decide +kernel
theorem d6 : decode yB 6 = .ok (.invokevirtual 335, 3) := by decide +kernel
theorem d9 : decode yB 9 = .ok (.ishr, 1) := by decide +kernel
theorem d10 : decode yB 10 = .ok (.ireturn, 1) := by decide +kernel
def site : List Cond := [.fieldLink "java/lang/String" 9 "java/lang/String" "value" "[B", Cdr.tab] ++ virtW "java/lang/String" 335 "java/lang/String" Cdr.yN Cdr.yN
def tab : Cond := tabOf yN yB 1 (some .int) site
def P (x t : Addr) (V : Cell) (cd : Int32) (n : Nat) (f : Nat → Int32) (z : Int32) (args : Array Value) (s : State) : Prop := args = #[.ref x] ∧ Txt x t V cd n f s ∧ StaticIs s "java/lang/String" "COMPACT_STRINGS" "Z" (.int z) ∧ ¬ z = 0
def E (n : Nat) (r : Option Value) (s u : State) : Prop := XT.PureE (some (.int (Int32.ofNat n))) r s u
/-- length() of a String of n chars, in either coding -/
theorem law (l : Launch) (x t : Addr) (V : Cell) (cd : Int32) (n : Nat) (f : Nat → Int32) (z : Int32) : Law l yN 1 0 1 13 yB 1 (some .int) site (P x t V cd n f z) (E n) [] 0 0 := by
  refine Law.of_walk (plainFor_of_name (by decide +kernel)) (by decide +kernel) (by decide +kernel) (by decide) (fun _ _ h => by rw [h.1]; rfl) (fun _ U U' hal hh h => ⟨h.1, h.2.1.mv hal hh, h.2.2.1.there hal hh, h.2.2.2⟩) (fun r U U' V V' h1 hal h2 h => XT.PureE.mv r U U' V V' h1 hal h2 h) ?_
  intro p e s m args below meth c s₁ X0 hexec hbytes hml hret hlk hnm hown hh0 W hP
  obtain ⟨rfl, hx, s1, hz⟩ := hP
  have v31 := hx.2.2.2.1.2.2.2
  have c1 : Steps p.tables e below (s₁.setTop (entryFrame m #[.ref x] 1)) (s₁.setTop (mkF m 1 #[.val (.ref x)] [.ref x])) := Steps.trans (entry rfl) (by
    show Steps p.tables e below (s₁.setTop (mkF m 0 #[.val (.ref x)] [])) _
    refine XS.aloadN X0.here hexec rfl (hb hbytes d0) rfl rfl ?_
    exact Steps.refl _)
  obtain ⟨T2, X2, q2, st2⟩ := X0.hget hexec hown (wk W (.fieldLink "java/lang/String" 9 "java/lang/String" "value" "[B")) (hx.mv X0.warmed.alike hh0).2.1 (g := (mkF m 1 #[.val (.ref x)] [.ref x])) rfl (rest := []) rfl (hb hbytes d1)
  have hh2 := q2.trans hh0
  have hx2 := hx.mv X2.warmed.alike hh2
  have c3 : Steps p.tables e below (s₁.setTop (entryFrame m #[.ref x] 1)) (T2.setTop (mkF m 6 #[.val (.ref x)] [.ref x, .int (Int32.ofNat V.slots.size)])) := (c1.trans (st2 _ (Steps.refl _))).trans (by
    refine X2.alen hexec hx2.2.2.2.1 rfl rfl (hb hbytes d4) ?_
    refine XS.aloadN X2.here hexec rfl (hb hbytes d5) rfl rfl ?_
    exact Steps.refl _)
  obtain ⟨v4, T4, X4, E4, g4⟩ := X2.callV hexec (Cdr.law l x cd z) hown (wks W (virtW "java/lang/String" 335 "java/lang/String" Cdr.yN Cdr.yN)) rfl (by decide) (wk W Cdr.tab) (W := 1) (Nat.le_of_ble_eq_true rfl) (Nat.le_of_ble_eq_true rfl) (Nat.le_refl _) (Nat.le_refl _) (hx2.1.fc X2.warmed.alike) hx2.1.is (g := (mkF m 6 #[.val (.ref x)] [.ref x, .int (Int32.ofNat V.slots.size)])) rfl (by rw [hml]; rfl) c3 (argsL := []) (rest := [.int (Int32.ofNat V.slots.size)]) rfl rfl (by show 2 * 0 + (1 + 0) ≤ _; decide) (hb hbytes d6) (⟨rfl, hx2.2.2.1, hx.2.2.2.2.1.cd, s1.there X2.warmed.alike hh2, hz⟩)
  obtain ⟨rfl, q4⟩ := E4
  have c5 : Steps p.tables e below (s₁.setTop (entryFrame m #[.ref x] 1)) (T4.setTop (mkF m 10 #[.val (.ref x)] [.int (Int32.ofNat V.slots.size >>> (cd &&& 31))])) := Steps.trans g4 (by
    refine ishr X4.here hexec rfl (hb hbytes d9) rfl ?_
    exact Steps.refl _)
  rw [hx.2.2.2.2.1.len v31] at c5
  exact ⟨T4, some (.int (Int32.ofNat n)), _, _, _, X4, rfl, rfl, rfl, (fun h => by cases h), ⟨rfl, q4.trans hh2⟩, fun fs hl => c5.trans (X4.ireturnOut hexec hret rfl (Or.inl rfl) (hb hbytes d10) hl)⟩
theorem pays {l : Launch} {R : Room} {p : Program} {e : Env} {below : List Frame} {s : State} {sargs : Array Value} {len W : Nat} (x t : Addr) (V : Cell) (cd : Int32) (n : Nat) (f : Nat → Int32) (z : Int32) (htab : tab.before sargs s = true) (hfr : 2 ≤ R.frames) (hlo : W + 25 ≤ R.locals) :
    Back l R p e below s sargs yN len W (fun A₁ a₁ => A₁.cells + 0 ≤ R.cells ∧ A₁.slots + 0 ≤ R.slots ∧ P x t V cd n f z a₁ A₁.U) (fun A₁ _ v₁ B₁ => E n v₁ A₁.U B₁.U ∧ B₁.locs = A₁.locs ++ [] ∧ B₁.cells = A₁.cells + 0 ∧ B₁.slots = A₁.slots + 0) :=
  (law l x t V cd n f z).pays htab hfr (by omega)
end Len
namespace IsL
def yN : MethodName := ⟨"java/lang/String", "isLatin1", "()Z"⟩
abbrev yB : ByteArray := jdk_42_method_154_code
theorem d0 : decode yB 0 = .ok (.getstatic 38, 3) := by decide +kernel
theorem d3 : decode yB 3 = .ok (.ifCond (.eq) 14, 3) := by decide +kernel
theorem d6 : decode yB 6 = .ok (.aload_n 0, 1) := by decide +kernel
theorem d7 : decode yB 7 = .ok (.getfield 15, 3) := by decide +kernel
theorem d10 : decode yB 10 = .ok (.ifCond (.ne) 7, 3) := by decide +kernel
theorem d13 : decode yB 13 = .ok (.iconst 1, 1) := by decide +kernel
theorem d14 : decode yB 14 = .ok (.goto 4, 3) := by decide +kernel
theorem d17 : decode yB 17 = .ok (.iconst 0, 1) := by decide +kernel
theorem d18 : decode yB 18 = .ok (.ireturn, 1) := by decide +kernel
def site : List Cond := [.fieldLink "java/lang/String" 38 "java/lang/String" "COMPACT_STRINGS" "Z", .fieldLink "java/lang/String" 15 "java/lang/String" "coder" "B"]
def tab : Cond := tabOf yN yB 1 (some .boolean) site
def P (x : Addr) (cd z : Int32) (args : Array Value) (s : State) : Prop := args = #[.ref x] ∧ Has x "java/lang/String" "coder" "B" (.int cd) s ∧ (cd = 0 ∨ cd = 1) ∧ StaticIs s "java/lang/String" "COMPACT_STRINGS" "Z" (.int z) ∧ ¬ z = 0
def E (cd : Int32) (r : Option Value) (s u : State) : Prop := XT.PureE (some (.int (1 - cd))) r s u
theorem law (l : Launch) (x : Addr) (cd z : Int32) : Law l yN 1 0 0 0 yB 1 (some .boolean) site (P x cd z) (E cd) [] 0 0 := by
  refine Law.of_walk (plainFor_of_name (by decide +kernel)) (by decide +kernel) (by decide +kernel) (by decide) (fun _ _ h => by rw [h.1]; rfl) (fun _ U U' hal hh h => ⟨h.1, h.2.1.mv hal hh, h.2.2.1, h.2.2.2.1.there hal hh, h.2.2.2.2⟩) (fun r U U' V V' h1 hal h2 h => XT.PureE.mv r U U' V V' h1 hal h2 h) ?_
  intro p e s m args below meth c s₁ X0 hexec hbytes hml hret hlk hnm hown hh0 W hP
  obtain ⟨rfl, hx, hc, s1, hz⟩ := hP
  have c1 : Steps p.tables e below (s₁.setTop (entryFrame m #[.ref x] 1)) (s₁.setTop (mkF m 0 #[.val (.ref x)] [])) := entry rfl
  obtain ⟨T2, X2, q2, st2⟩ := X0.sget hexec hown (wk W (.fieldLink "java/lang/String" 38 "java/lang/String" "COMPACT_STRINGS" "Z")) s1 (fun _ _ h => by rw [hh0]; exact h) (g := (mkF m 0 #[.val (.ref x)] [])) rfl (hb hbytes d0)
  have hh2 := q2.trans hh0
  have c3 : Steps p.tables e below (s₁.setTop (entryFrame m #[.ref x] 1)) (T2.setTop (mkF m 7 #[.val (.ref x)] [.ref x])) := (c1.trans (st2 _ (Steps.refl _))).trans (by
    refine XS.ifNo X2.here hexec rfl (hb hbytes d3) rfl (i0_eq_f hz) ?_
    refine XS.aloadN X2.here hexec rfl (hb hbytes d6) rfl rfl ?_
    exact Steps.refl _)
  obtain ⟨T4, X4, q4, st4⟩ := X2.hget hexec hown (wk W (.fieldLink "java/lang/String" 15 "java/lang/String" "coder" "B")) (hx.mv X2.warmed.alike hh2) (g := (mkF m 7 #[.val (.ref x)] [.ref x])) rfl (rest := []) rfl (hb hbytes d7)
  have c5 : Steps p.tables e below (s₁.setTop (entryFrame m #[.ref x] 1)) (T4.setTop (mkF m 10 #[.val (.ref x)] [.int cd])) := c3.trans (st4 _ (Steps.refl _))
  have c6 : Steps p.tables e below (s₁.setTop (entryFrame m #[.ref x] 1)) (T4.setTop (mkF m 18 #[.val (.ref x)] [.int (1 - cd)])) := by
    rcases hc with rfl | rfl
    · exact c5.trans (by
        refine XS.ifNo X4.here hexec rfl (hb hbytes d10) rfl (i0_ne_f rfl) ?_
        refine iconstV X4.here hexec rfl 1 (hb hbytes d13) (by decide) ?_
        refine XS.goto X4.here hexec rfl (pc0 := 14) rfl (hb hbytes d14) (by decide) rfl ?_
        exact Steps.refl _)
    · exact c5.trans (by
        refine XS.ifYes X4.here hexec rfl (pc0 := 10) rfl (hb hbytes d10) rfl (i0_ne_t (by decide)) (by decide) rfl ?_
        refine iconstV X4.here hexec rfl 0 (hb hbytes d17) (by decide) ?_
        exact Steps.refl _)
  exact ⟨T4, some (.int (1 - cd)), _, _, _, X4, rfl, rfl, rfl, (fun h => by cases h), ⟨rfl, q4.trans hh2⟩, fun fs hl => c6.trans (X4.ireturnOut hexec hret (by rcases hc with rfl | rfl <;> rfl) (Or.inr (Or.inl rfl)) (hb hbytes d18) hl)⟩
end IsL
namespace LChA
def yN : MethodName := ⟨"java/lang/StringLatin1", "charAt", "([BI)C"⟩
abbrev yB : ByteArray := jdk_43_method_2_code
theorem d0 : decode yB 0 = .ok (.iload_n 1, 1) := by decide +kernel
theorem d1 : decode yB 1 = .ok (.aload_n 0, 1) := by decide +kernel
theorem d2 : decode yB 2 = .ok (.arraylength, 1) := by decide +kernel
theorem d3 : decode yB 3 = .ok (.invokestatic 9, 3) := by decide +kernel
theorem d6 : decode yB 6 = .ok (.aload_n 0, 1) := by decide +kernel
theorem d7 : decode yB 7 = .ok (.iload_n 1, 1) := by decide +kernel
theorem d8 : decode yB 8 = .ok (.baload, 1) := by decide +kernel
theorem d9 : decode yB 9 = .ok (.sipush 255, 3) := by decide +kernel
theorem d12 : decode yB 12 = .ok (.iand, 1) := by decide +kernel
theorem d13 : decode yB 13 = .ok (.i2c, 1) := by decide +kernel
theorem d14 : decode yB 14 = .ok (.ireturn, 1) := by decide +kernel
def site : List Cond := [JO.Str_checkIndex.tab] ++ staticW "java/lang/StringLatin1" 9 JO.Str_checkIndex.yN
def tab : Cond := tabOf yN yB 2 (some .char) site
def P (t : Addr) (V : Cell) (i : Nat) (u : Int32) (fm : Value) (args : Array Value) (s : State) : Prop := args = #[.ref t, .int (Int32.ofNat i)] ∧ XT.Arr .byte t V s ∧ V.slots[i]? = some (.int u) ∧ (StaticIs s "jdk/internal/util/Preconditions" "SIOOBE_FORMATTER" "Ljava/util/function/BiFunction;" fm ∧ fm.isRef = true)
def E (u : Int32) (r : Option Value) (s w : State) : Prop := XT.PureE (some (.int (chr8 u))) r s w
theorem law (l : Launch) (t : Addr) (V : Cell) (i : Nat) (u : Int32) (fm : Value) : Law l yN 2 2 2 27 yB 2 (some .char) site (P t V i u fm) (E u) [] 0 0 := by
  refine Law.of_walk (plainFor_of_name (by decide +kernel)) (by decide +kernel) (by decide +kernel) (by decide) (fun _ _ h => by rw [h.1]; rfl) (fun _ U U' hal hh h => ⟨h.1, h.2.1.mv hal hh, h.2.2.1, h.2.2.2.1.there hal hh, h.2.2.2.2⟩) (fun r U U' V V' h1 hal h2 h => XT.PureE.mv r U U' V V' h1 hal h2 h) ?_
  intro p e s m args below meth c s₁ X0 hexec hbytes hml hret hlk hnm hown hh0 W hP
  obtain ⟨rfl, hV, hu, s1, rf⟩ := hP
  have v31 := hV.2.2.2
  have hi : i < V.slots.size := (Array.getElem?_eq_some_iff.mp hu).1
  have c1 : Steps p.tables e below (s₁.setTop (entryFrame m #[.ref t, .int (Int32.ofNat i)] 2)) (s₁.setTop (mkF m 0 #[.val (.ref t), .val (.int (Int32.ofNat i))] [])) := entry rfl
  have c2 : Steps p.tables e below (s₁.setTop (entryFrame m #[.ref t, .int (Int32.ofNat i)] 2)) (s₁.setTop (mkF m 3 #[.val (.ref t), .val (.int (Int32.ofNat i))] [.int (Int32.ofNat V.slots.size), .int (Int32.ofNat i)])) := c1.trans (by
    refine XS.iloadN X0.here hexec rfl (hb hbytes d0) rfl ?_
    refine XS.aloadN X0.here hexec rfl (hb hbytes d1) rfl rfl ?_
    refine X0.alen hexec (hV.mv X0.warmed.alike hh0) rfl rfl (hb hbytes d2) ?_
    exact Steps.refl _)
  obtain ⟨v3, T3, X3, E3, g3⟩ := X0.callS hexec (JO.Str_checkIndex.law l (Int32.ofNat i) (Int32.ofNat V.slots.size) fm) hown (wks W (staticW "java/lang/StringLatin1" 9 JO.Str_checkIndex.yN)) (wk W JO.Str_checkIndex.tab) (W := 0) (Nat.le_of_ble_eq_true rfl) (Nat.le_of_ble_eq_true rfl) (Nat.le_refl _) (Nat.le_refl _) (g := (mkF m 3 #[.val (.ref t), .val (.int (Int32.ofNat i))] [.int (Int32.ofNat V.slots.size), .int (Int32.ofNat i)])) rfl (by rw [hml]; rfl) c2 (argsL := [.int (Int32.ofNat i), .int (Int32.ofNat V.slots.size)]) (rest := []) rfl rfl (by show 2 * 0 + 0 ≤ _; decide) (hb hbytes d3) (⟨rfl, rf, s1.there X0.warmed.alike hh0, Int32.ofNat_not_neg (by omega), lt32 v31 hi⟩)
  obtain ⟨rfl, q3⟩ := E3
  have hh3 := q3.trans hh0
  have c4 : Steps p.tables e below (s₁.setTop (entryFrame m #[.ref t, .int (Int32.ofNat i)] 2)) (T3.setTop (mkF m 14 #[.val (.ref t), .val (.int (Int32.ofNat i))] [.int (chr8 u)])) := Steps.trans g3 (by
    refine XS.aloadN X3.here hexec rfl (hb hbytes d6) rfl rfl ?_
    refine XS.iloadN X3.here hexec rfl (hb hbytes d7) rfl ?_
    refine X3.aget hexec (hV.mv X3.warmed.alike hh3) rfl hu rfl rfl (hb hbytes d8) ?_
    refine sipushV X3.here hexec rfl 255 (hb hbytes d9) (by decide) ?_
    refine XS.iand X3.here hexec rfl (hb hbytes d12) rfl ?_
    refine i2c X3.here hexec rfl (hb hbytes d13) rfl ?_
    exact Steps.refl _)
  exact ⟨T3, some (.int (chr8 u)), _, _, _, X3, rfl, rfl, rfl, (fun h => by cases h), ⟨rfl, hh3⟩, fun fs hl => c4.trans (X3.ireturnOut hexec hret (narrow_c _) (Or.inr (Or.inr (Or.inr (Or.inl rfl)))) (hb hbytes d14) hl)⟩
end LChA
end StrChars
namespace StrChars.Road
open Jvm Sem ClassFile Op Lib Jvm.Stand Jvm.Free Jvm.Free.XT
open Jvm.Lib.Cold (StaticIs)
theorem consq {a : Array Value} {s : State} {c : Jvm.Cond} {L : List Jvm.Cond} (h0 : c.before a s = true) (h : ∀ w ∈ L, w.before a s = true) : ∀ w ∈ c :: L, w.before a s = true := fun w hw => (List.mem_cons.mp hw).elim (fun e => e ▸ h0) (h w)
/-- the words of String.length(), either coding -/
abbrev wordsLen : List Jvm.Cond := [.code Len.yN Len.yB 1 (some .int), .initialized ST, .fieldLink ST 9 ST "value" "[B", .fieldLink ST 38 ST "COMPACT_STRINGS" "Z", .fieldLink ST 15 ST "coder" "B", .code Cdr.yN Cdr.yB 1 (some .byte), .methodLink ST 335 Cdr.yN, .declares Cdr.yN, .selects ST Cdr.yN Cdr.yN, .instanceMethod Cdr.yN]
theorem tabLen_of {a : Array Value} {s : State} (h : ∀ w ∈ wordsLen, w.before a s = true) : Len.tab.before a s = true := by
  have hc : Cdr.tab.before a s = true := unparts (wk h (.code Cdr.yN Cdr.yB 1 (some .byte))) (wks h (.initialized Cdr.yN.cls :: Cdr.site))
  have q := consq hc h
  exact unparts (wk q (.code Len.yN Len.yB 1 (some .int))) (wks q (.initialized Len.yN.cls :: Len.site))
theorem movedLen {Z s : State} {a0 args : Array Value} (hZ : Z.Warmed39 s.vm) (hw : ∀ d ∈ wordsLen, d.before a0 Z = true) : ∀ d ∈ wordsLen, d.before args s = true := fun d hd => by
  have q := hw d hd
  have t : ∀ d ∈ wordsLen, d = .arrayClass .byte ∨ (d.onTables && d.keepsFace) = true := by decide +kernel
  rcases t d hd with rfl | t
  · exact RoadKit.mvA hZ q
  · exact RoadKit.mv hZ q t
/-- the bytes of the chars cs, low before high -/
def wideBytes : List Int32 → List Value
  | [] => []
  | c :: cs => .int (lo8 c) :: .int (hi8 c) :: wideBytes cs
theorem wide_lo (d : Value) : ∀ (cs : List Int32) (j : Nat), j < cs.length → (wideBytes cs).getD (2 * j) d = .int (lo8 (cs.getD j 0))
  | [], j, h => absurd h (Nat.not_lt_zero j)
  | c :: cs, 0, _ => rfl
  | c :: cs, j + 1, h => by
    have q := wide_lo d cs j (by simpa using h)
    rw [show 2 * (j + 1) = 2 * j + 1 + 1 from by omega]
    simpa [wideBytes] using q
theorem wide_hi (d : Value) : ∀ (cs : List Int32) (j : Nat), j < cs.length → (wideBytes cs).getD (2 * j + 1) d = .int (hi8 (cs.getD j 0))
  | [], j, h => absurd h (Nat.not_lt_zero j)
  | c :: cs, 0, _ => rfl
  | c :: cs, j + 1, h => by
    have q := wide_hi d cs j (by simpa using h)
    rw [show 2 * (j + 1) + 1 = 2 * j + 1 + 1 + 1 from by omega]
    simpa [wideBytes] using q
theorem low_at (d : Value) (cs : List Int32) (j : Nat) (h : j < cs.length) : (cs.map fun c => Value.int (lo8 c)).getD j d = .int (lo8 (cs.getD j 0)) := by
  simp [List.getD_eq_getElem?_getD, h]
/-- an array of N2 bytes vs codes the chars cs by the coder cd -/
def CodA (cs : List Int32) (cd N2 : Int32) (vs : List Value) : Prop := (cd = 0 ∧ N2 = Int32.ofNat cs.length ∧ vs = (cs.map fun c => Value.int (lo8 c)) ∧ ∀ c ∈ cs, ¬ 255 < c) ∨ (cd = 1 ∧ N2 = Int32.ofNat (2 * cs.length) ∧ vs = wideBytes cs ∧ ∃ c ∈ cs, 255 < c)
theorem CodA.cod {cs : List Int32} {cd N2 : Int32} {vs : List Value} {V : Cell} (h : CodA cs cd N2 vs) (hn : 2 * cs.length < 2 ^ 31) (hs : V.slots.size = N2.toNatClampNeg) (hv : RoadKit.Has V vs (.int 0)) : Cod cd cs.length (fun j => cs.getD j 0) V := by
  rcases h with ⟨rfl, rfl, rfl, h⟩ | ⟨rfl, rfl, rfl, c, hc, hw⟩
  · rw [n32 (by omega)] at hs
    exact Or.inl ⟨rfl, hs, fun j hj => ⟨by rw [hv j (by omega), low_at _ _ _ hj], by
      have e : cs.getD j 0 = cs[j] := by simp [List.getD_eq_getElem?_getD, hj]
      show ¬ 255 < cs.getD j 0
      rw [e]; exact h _ (List.getElem_mem _)⟩⟩
  · rw [n32 (by omega)] at hs
    obtain ⟨j, hj, rfl⟩ := List.getElem_of_mem hc
    exact Or.inr ⟨rfl, hs, fun j hj => ⟨by rw [hv _ (by omega), wide_lo _ _ _ hj], by rw [hv _ (by omega), wide_hi _ _ _ hj]⟩, j, hj, by
      have e : cs.getD j 0 = cs[j] := by simp [List.getD_eq_getElem?_getD, hj]
      show 255 < cs.getD j 0
      rw [e]; exact hw⟩
/-- an object of exactly java/lang/String, its two fields found: as the laws ask it -/
theorem strObj {Z U : State} {a0 : Array Value} {kI : Nat} (wi : (Jvm.Cond.instantiable ST kI).before a0 Z = true) (al : Z.vm.Alike U.vm) {x : Addr} {v0 c0 : Value} (E : RoadKit.Exa Z U.heap x ST) (V : RoadKit.Fld Z U.heap x ST "value" "[B" v0) (C : RoadKit.Fld Z U.heap x ST "coder" "B" c0) :
    ∃ (D : Cell) (fV fC : Field), Blank ST x D U ∧ Found ST "value" "[B" fV U ∧ Found ST "coder" "B" fC U ∧ D.slots[fV.slot]? = some v0 ∧ D.slots[fC.slot]? = some c0 ∧ RoadKit.slotOf Z ST "value" "[B" = fV.slot ∧ RoadKit.slotOf Z ST "coder" "B" = fC.slot := by
  obtain ⟨D, cfV, kV, iV, fV, hD, gV, stV, knV, obV, asV, slV⟩ := V
  obtain ⟨D', cfC, kC, iC, fC, hD', gC, stC, -, -, asC, slC⟩ := C
  cases hD.symm.trans hD'
  obtain ⟨D2, kD, e1, e2, e3, e4, e5⟩ := E
  cases hD.symm.trans e1
  obtain ⟨c2, k2, i1, i2, i3, -⟩ := Cond.instantiable_spec wi
  cases e2.symm.trans i1
  cases e3.symm.trans i2
  obtain ⟨kU, u1, u2⟩ := al.2.2 _ _ e3
  exact ⟨D, fV, fC, ⟨hD, ⟨knV, fun q hq => by rw [hq] at obV; cases obV⟩, by rw [al.findClass]; exact e2, kU, u1, by rw [u2]; exact i3, by rw [u2]; exact e5 i3⟩, ⟨SBG.found_only al ⟨cfV, kV, iV, gV⟩, stV⟩, ⟨SBG.found_only al ⟨cfC, kC, iC, gC⟩, stC⟩, slV, slC, by simp [RoadKit.slotOf, gV], by simp [RoadKit.slotOf, gC]⟩
theorem sta_is {Z U : State} (al : Z.vm.Alike U.vm) {C n d : String} {v : Value} (S : RoadKit.Sta Z U.heap C n d v) : StaticIs U C n d v := by
  obtain ⟨cfS, iS, kS, fS, st, cS, t1, t2, t3, t4, t5, t6, t7⟩ := S
  exact StaticIs.there (s := { Z with heap := U.heap }) ⟨cfS, iS, kS, fS, st, cS, t1, t2, t3, t4, t5, (fun q => by rw [q] at t6; cases t6), t7⟩ al rfl
/-- **length() OF SUCH A STRING** -/
theorem lenW {p : Program} {l : Launch} {e : Env} {R : Room} {s : State} {args : Array Value} {below : List Frame} {len W : Nat} {Z : State} {a0 : Array Value} {h : Heap} (hZ : Z.Warmed39 s.vm) (hw : ∀ d ∈ wordsLen, d.before a0 Z = true) {kI : Nat} (wi : (Jvm.Cond.instantiable ST kI).before a0 Z = true)
    {x t : Addr} {kb : ClassId} {cs : List Int32} {cd N2 z : Int32} {vs : List Value} (E : RoadKit.Exa Z h x ST) (V : RoadKit.Fld Z h x ST "value" "[B" (.ref t)) (C : RoadKit.Fld Z h x ST "coder" "B" (.int cd)) (K : RoadKit.Arv Z h t kb .byte N2 vs (.int 0)) (hc : CodA cs cd N2 vs) (hb : ∀ c ∈ cs, ¬ c < 0 ∧ ¬ (65535 : Int32) < c)
    (S : RoadKit.Sta Z h ST "COMPACT_STRINGS" "Z" (.int z)) (hz : ¬ z = 0) (l2 : cs.length ≤ 4000) (hfr : 2 ≤ R.frames) (hlo : W + 25 ≤ R.locals) :
    Back l R p e below s args (⟨"java/lang/String", "length", "()I"⟩ : MethodName) len W (fun P a => a = #[.ref x] ∧ P.U.heap = h ∧ P.cells + 0 ≤ R.cells ∧ P.slots + 0 ≤ R.slots)
      (fun P _ v B => ∃ L, (v = some (.int (Int32.ofNat cs.length)) ∧ L = [] ∧ B.U.heap = h) ∧ B.locs = P.locs ++ L ∧ B.cells = P.cells + 0 ∧ B.slots = P.slots + 0) := by
  obtain ⟨A, K1, K2, K3, K4, K5, K6⟩ := K
  have hcod := hc.cod (by omega) K3 K5
  intro m meth c P g ig mk a X hg hsize hdg hW hn hp'
  obtain ⟨rfl, rfl, r1, r2⟩ := hp'
  have al : Z.vm.Alike P.U.vm := hZ.alike.trans X.warmed.alike
  obtain ⟨D, fV, fC, hB, F1, F2, g1, g2, -, -⟩ := strObj wi al E V C
  have hx : Txt x t A cd cs.length (fun j => cs.getD j 0) P.U := ⟨⟨_, hB.2.2.1, D, hB.1, rfl, by cases q : D.vm <;> first | rfl | exact absurd q (hB.2.1.2 _)⟩, Has.of hB F1 g1, Has.of hB F2 g2, ⟨K1.1, State.isArrayOf_alike al K1.2.1, K1.2.2, by rcases hcod with ⟨-, q, -⟩ | ⟨-, q, -⟩ <;> omega⟩, hcod, fun j hj => by
    have e : cs.getD j 0 = cs[j] := by simp [List.getD_eq_getElem?_getD, hj]
    show ¬ cs.getD j 0 < 0 ∧ ¬ 65535 < cs.getD j 0
    rw [e]; exact hb _ (List.getElem_mem _)⟩
  obtain ⟨v, B, X', ⟨⟨hv, hh⟩, hl, hk, hs⟩, st⟩ := Len.pays x t A cd cs.length (fun j => cs.getD j 0) z (tabLen_of (movedLen hZ hw)) hfr hlo m meth c P g ig mk _ X hg hsize hdg hW hn ⟨r1, r2, rfl, hx, sta_is al S, hz⟩
  exact ⟨v, B, X', ⟨[], ⟨hv, rfl, hh⟩, hl, hk, hs⟩, st⟩
end StrChars.Road
namespace StrChars.Road
open Jvm Sem ClassFile Op Lib Jvm.Stand Jvm.Free Jvm.Free.XT
open Jvm.Lib.Cold (StaticIs)
/-- the road's facts of a String, as the laws ask it -/
theorem txt_of {Z U : State} {a0 : Array Value} {kI : Nat} (wi : (Jvm.Cond.instantiable ST kI).before a0 Z = true) (al : Z.vm.Alike U.vm) {x t : Addr} {kb : ClassId} {cs : List Int32} {cd N2 : Int32} {vs : List Value} (E : RoadKit.Exa Z U.heap x ST) (V : RoadKit.Fld Z U.heap x ST "value" "[B" (.ref t)) (C : RoadKit.Fld Z U.heap x ST "coder" "B" (.int cd)) (K : RoadKit.Arv Z U.heap t kb .byte N2 vs (.int 0)) (hc : CodA cs cd N2 vs) (hb : ∀ c ∈ cs, ¬ c < 0 ∧ ¬ (65535 : Int32) < c) (l2 : cs.length ≤ 4000) :
    ∃ A, Txt x t A cd cs.length (fun j => cs.getD j 0) U := by
  obtain ⟨A, K1, K2, K3, K4, K5, K6⟩ := K
  have hcod := hc.cod (by omega) K3 K5
  obtain ⟨D, fV, fC, hB, F1, F2, g1, g2, -, -⟩ := strObj wi al E V C
  exact ⟨A, ⟨_, hB.2.2.1, D, hB.1, rfl, by cases q : D.vm <;> first | rfl | exact absurd q (hB.2.1.2 _)⟩, Has.of hB F1 g1, Has.of hB F2 g2, ⟨K1.1, State.isArrayOf_alike al K1.2.1, K1.2.2, by rcases hcod with ⟨-, q, -⟩ | ⟨-, q, -⟩ <;> omega⟩, hcod, fun j hj => by
    have e : cs.getD j 0 = cs[j] := by simp [List.getD_eq_getElem?_getD, hj]
    show ¬ cs.getD j 0 < 0 ∧ ¬ 65535 < cs.getD j 0
    rw [e]; exact hb _ (List.getElem_mem _)⟩
end StrChars.Road
namespace StrChars
open Jvm Sem ClassFile Op Lib Jvm.Stand Jvm.Free.XT Jvm.Free.ALB Jvm.Free.JM Jvm.Free
open Jvm.Lib.Cold (StaticIs)
namespace ChN
def yN : MethodName := ⟨"java/lang/String", "charAt", "(I)C"⟩
abbrev yB : ByteArray := jdk_42_method_56_code
theorem d0 : decode yB 0 = .ok (.aload_n 0, 1) := by decide +kernel
theorem d1 : decode yB 1 = .ok (.invokevirtual 492, 3) := by decide +kernel
theorem d4 : decode yB 4 = .ok (.ifCond (.eq) 12, 3) := by decide +kernel
theorem d7 : decode yB 7 = .ok (.aload_n 0, 1) := by decide +kernel
theorem d8 : decode yB 8 = .ok (.getfield 9, 3) := by decide +kernel
theorem d11 : decode yB 11 = .ok (.iload_n 1, 1) := by decide +kernel
theorem d12 : decode yB 12 = .ok (.invokestatic 495, 3) := by decide +kernel
theorem d15 : decode yB 15 = .ok (.ireturn, 1) := by decide +kernel
def site : List Cond := [.fieldLink "java/lang/String" 9 "java/lang/String" "value" "[B", IsL.tab, LChA.tab] ++ virtW "java/lang/String" 492 "java/lang/String" IsL.yN IsL.yN ++ staticW "java/lang/String" 495 LChA.yN
def tab : Cond := tabOf yN yB 2 (some .char) site
def P (x t : Addr) (V : Cell) (n : Nat) (f : Nat → Int32) (z : Int32) (fm : Value) (i : Nat) (args : Array Value) (s : State) : Prop := args = #[.ref x, .int (Int32.ofNat i)] ∧ Txt x t V 0 n f s ∧ i < n ∧ StaticIs s "java/lang/String" "COMPACT_STRINGS" "Z" (.int z) ∧ ¬ z = 0 ∧ StaticIs s "jdk/internal/util/Preconditions" "SIOOBE_FORMATTER" "Ljava/util/function/BiFunction;" fm ∧ fm.isRef = true
def E (f : Nat → Int32) (i : Nat) (r : Option Value) (s u : State) : Prop := XT.PureE (some (.int (f i))) r s u
/-- charAt(i) of a Latin-1 String of n chars, i < n: f i -/
theorem law (l : Launch) (x t : Addr) (V : Cell) (n : Nat) (f : Nat → Int32) (z : Int32) (fm : Value) (i : Nat) : Law l yN 2 1 3 40 yB 2 (some .char) site (P x t V n f z fm i) (E f i) [] 0 0 := by
  refine Law.of_walk (plainFor_of_name (by decide +kernel)) (by decide +kernel) (by decide +kernel) (by decide) (fun _ _ h => by rw [h.1]; rfl) (fun _ U U' hal hh h => ⟨h.1, h.2.1.mv hal hh, h.2.2.1, h.2.2.2.1.there hal hh, h.2.2.2.2.1, h.2.2.2.2.2.1.there hal hh, h.2.2.2.2.2.2⟩) (fun r U U' V V' h1 hal h2 h => XT.PureE.mv r U U' V V' h1 hal h2 h) ?_
  intro p e s m args below meth c s₁ X0 hexec hbytes hml hret hlk hnm hown hh0 W hP
  obtain ⟨rfl, hx, hi, s1, hz, s3, rf⟩ := hP
  have v31 := hx.2.2.2.1.2.2.2
  have hr := hx.2.2.2.2.2 i hi
  have hx0 := hx.mv X0.warmed.alike hh0
  have c1 : Steps p.tables e below (s₁.setTop (entryFrame m #[.ref x, .int (Int32.ofNat i)] 2)) (s₁.setTop (mkF m 1 #[.val (.ref x), .val (.int (Int32.ofNat i))] [.ref x])) := Steps.trans (entry rfl) (by
    show Steps p.tables e below (s₁.setTop (mkF m 0 #[.val (.ref x), .val (.int (Int32.ofNat i))] [])) _
    refine XS.aloadN X0.here hexec rfl (hb hbytes d0) rfl rfl ?_
    exact Steps.refl _)
  obtain ⟨v2, T2, X2, E2, g2⟩ := X0.callV hexec (IsL.law l x 0 z) hown (wks W (virtW "java/lang/String" 492 "java/lang/String" IsL.yN IsL.yN)) rfl (by decide) (wk W IsL.tab) (W := 0) (Nat.le_of_ble_eq_true rfl) (Nat.le_of_ble_eq_true rfl) (Nat.le_refl _) (Nat.le_refl _) (hx0.1.fc X0.warmed.alike) hx0.1.is (g := (mkF m 1 #[.val (.ref x), .val (.int (Int32.ofNat i))] [.ref x])) rfl (by rw [hml]; rfl) c1 (argsL := []) (rest := []) rfl rfl (by show 2 * 0 + 0 ≤ _; decide) (hb hbytes d1) (⟨rfl, hx0.2.2.1, hx.2.2.2.2.1.cd, s1.there X0.warmed.alike hh0, hz⟩)
  obtain ⟨rfl, q2⟩ := E2
  have hh2 := q2.trans hh0
  have hx2 := hx.mv X2.warmed.alike hh2
  obtain ⟨-, k1, k2⟩ | ⟨k0, -⟩ := hx.2.2.2.2.1
  · have c3 : Steps p.tables e below (s₁.setTop (entryFrame m #[.ref x, .int (Int32.ofNat i)] 2)) (T2.setTop (mkF m 8 #[.val (.ref x), .val (.int (Int32.ofNat i))] [.ref x])) := Steps.trans g2 (by
      refine XS.ifNo X2.here hexec rfl (hb hbytes d4) rfl (i0_eq_f (by decide)) ?_
      refine XS.aloadN X2.here hexec rfl (hb hbytes d7) rfl rfl ?_
      exact Steps.refl _)
    obtain ⟨T4, X4, q4, st4⟩ := X2.hget hexec hown (wk W (.fieldLink "java/lang/String" 9 "java/lang/String" "value" "[B")) hx2.2.1 (g := (mkF m 8 #[.val (.ref x), .val (.int (Int32.ofNat i))] [.ref x])) rfl (rest := []) rfl (hb hbytes d8)
    have hh4 := q4.trans hh2
    have c5 : Steps p.tables e below (s₁.setTop (entryFrame m #[.ref x, .int (Int32.ofNat i)] 2)) (T4.setTop (mkF m 12 #[.val (.ref x), .val (.int (Int32.ofNat i))] [.int (Int32.ofNat i), .ref t])) := (c3.trans (st4 _ (Steps.refl _))).trans (by
      refine XS.iloadN X4.here hexec rfl (hb hbytes d11) rfl ?_
      exact Steps.refl _)
    obtain ⟨v6, T6, X6, E6, g6⟩ := X4.callS hexec (LChA.law l t V i (lo8 (f i)) fm) hown (wks W (staticW "java/lang/String" 495 LChA.yN)) (wk W LChA.tab) (W := 0) (Nat.le_of_ble_eq_true rfl) (Nat.le_of_ble_eq_true rfl) (Nat.le_refl _) (Nat.le_refl _) (g := (mkF m 12 #[.val (.ref x), .val (.int (Int32.ofNat i))] [.int (Int32.ofNat i), .ref t])) rfl (by rw [hml]; rfl) c5 (argsL := [.ref t, .int (Int32.ofNat i)]) (rest := []) rfl rfl (by show 2 * 0 + 0 ≤ _; decide) (hb hbytes d12) (⟨rfl, hx.2.2.2.1.mv X4.warmed.alike hh4, (k2 i hi).1, s3.there X4.warmed.alike hh4, rf⟩)
    obtain ⟨rfl, q6⟩ := E6
    rw [chr8_lo8 hr.1 (k2 i hi).2] at g6
    exact ⟨T6, some (.int (f i)), _, _, _, X6, rfl, rfl, rfl, (fun h => by cases h), ⟨rfl, q6.trans hh4⟩, fun fs hl => Steps.trans g6 (X6.ireturnOut hexec hret (narrow_ch hr.1 hr.2) (Or.inr (Or.inr (Or.inr (Or.inl rfl)))) (hb hbytes d15) hl)⟩
  · exact absurd k0 (by decide)
theorem pays {l : Launch} {R : Room} {p : Program} {e : Env} {below : List Frame} {s : State} {sargs : Array Value} {len W : Nat} (x t : Addr) (V : Cell) (n : Nat) (f : Nat → Int32) (z : Int32) (fm : Value) (i : Nat) (htab : tab.before sargs s = true) (hfr : 4 ≤ R.frames) (hlo : W + 53 ≤ R.locals) :
    Back l R p e below s sargs yN len W (fun A₁ a₁ => A₁.cells + 0 ≤ R.cells ∧ A₁.slots + 0 ≤ R.slots ∧ P x t V n f z fm i a₁ A₁.U) (fun A₁ _ v₁ B₁ => E f i v₁ A₁.U B₁.U ∧ B₁.locs = A₁.locs ++ [] ∧ B₁.cells = A₁.cells + 0 ∧ B₁.slots = A₁.slots + 0) :=
  (law l x t V n f z fm i).pays htab hfr (by omega)
end ChN
end StrChars
namespace StrChars.Road
open Jvm Sem ClassFile Op Lib Jvm.Stand Jvm.Free Jvm.Free.XT
open Jvm.Lib.Cold (StaticIs)
/-- the words of String.charAt(int), the Latin-1 road alone -/
abbrev wordsChN : List Jvm.Cond := [.code ChN.yN ChN.yB 2 (some .char), .initialized ST, .fieldLink ST 9 ST "value" "[B", .fieldLink ST 38 ST "COMPACT_STRINGS" "Z", .fieldLink ST 15 ST "coder" "B", .code IsL.yN IsL.yB 1 (some .boolean), .methodLink ST 492 IsL.yN, .declares IsL.yN, .selects ST IsL.yN IsL.yN, .instanceMethod IsL.yN,
  .methodLink ST 495 LChA.yN, .static LChA.yN, .code LChA.yN LChA.yB 2 (some .char), .initialized "java/lang/StringLatin1", .methodLink "java/lang/StringLatin1" 9 JO.Str_checkIndex.yN, .static JO.Str_checkIndex.yN, .code JO.Str_checkIndex.yN JO.Str_checkIndex.yB 2 none,
  .fieldLink ST 1053 "jdk/internal/util/Preconditions" "SIOOBE_FORMATTER" "Ljava/util/function/BiFunction;", .methodLink ST 1059 JC.PreCheck.yN, .static JC.PreCheck.yN, .code JC.PreCheck.yN JC.PreCheck.yB 3 (some .int), .initialized "jdk/internal/util/Preconditions"]
theorem tabChN_of {a : Array Value} {s : State} (h : ∀ w ∈ wordsChN, w.before a s = true) : ChN.tab.before a s = true := by
  have hp : JC.PreCheck.tab.before a s = true := unparts (wk h (.code JC.PreCheck.yN JC.PreCheck.yB 3 (some .int))) (wks h (.initialized JC.PreCheck.yN.cls :: JC.PreCheck.site))
  have qk := consq hp h
  have hk : JO.Str_checkIndex.tab.before a s = true := unparts (wk qk (.code JO.Str_checkIndex.yN JO.Str_checkIndex.yB 2 none)) (wks qk (.initialized JO.Str_checkIndex.yN.cls :: JO.Str_checkIndex.site))
  have ql := consq hk h
  have hl : LChA.tab.before a s = true := unparts (wk ql (.code LChA.yN LChA.yB 2 (some .char))) (wks ql (.initialized LChA.yN.cls :: LChA.site))
  have hi : IsL.tab.before a s = true := unparts (wk h (.code IsL.yN IsL.yB 1 (some .boolean))) (wks h (.initialized IsL.yN.cls :: IsL.site))
  have q := consq hi (consq hl h)
  exact unparts (wk q (.code ChN.yN ChN.yB 2 (some .char))) (wks q (.initialized ChN.yN.cls :: ChN.site))
theorem movedChN {Z s : State} {a0 args : Array Value} (hZ : Z.Warmed39 s.vm) (hw : ∀ d ∈ wordsChN, d.before a0 Z = true) : ∀ d ∈ wordsChN, d.before args s = true := fun d hd => by
  have t : ∀ d ∈ wordsChN, (d.onTables && d.keepsFace) = true := by decide +kernel
  exact RoadKit.mv hZ (hw d hd) (t d hd)
/-- **charAt(i) OF A LATIN-1 STRING**, i < n: the char -/
theorem chN {p : Program} {l : Launch} {e : Env} {R : Room} {s : State} {args : Array Value} {below : List Frame} {len W : Nat} {Z : State} {a0 : Array Value} {h : Heap} (hZ : Z.Warmed39 s.vm) (hw : ∀ d ∈ wordsChN, d.before a0 Z = true) {kI : Nat} (wi : (Jvm.Cond.instantiable ST kI).before a0 Z = true)
    {x t : Addr} {kb : ClassId} {cs : List Int32} {N2 z : Int32} {vs : List Value} {fm : Value} {i : Nat} {j : Int32} (E : RoadKit.Exa Z h x ST) (V : RoadKit.Fld Z h x ST "value" "[B" (.ref t)) (C : RoadKit.Fld Z h x ST "coder" "B" (.int 0)) (K : RoadKit.Arv Z h t kb .byte N2 vs (.int 0)) (hc : CodA cs 0 N2 vs) (hb : ∀ c ∈ cs, ¬ c < 0 ∧ ¬ (65535 : Int32) < c)
    (S : RoadKit.Sta Z h ST "COMPACT_STRINGS" "Z" (.int z)) (hz : ¬ z = 0) (F : RoadKit.Sta Z h "jdk/internal/util/Preconditions" "SIOOBE_FORMATTER" "Ljava/util/function/BiFunction;" fm) (rf : fm.isRef = true) (l2 : cs.length ≤ 4000) (hi : i < cs.length) (hj : j = Int32.ofNat i) (hfr : 4 ≤ R.frames) (hlo : W + 53 ≤ R.locals) :
    Back l R p e below s args (⟨"java/lang/String", "charAt", "(I)C"⟩ : MethodName) len W (fun P a => a = #[.ref x, .int j] ∧ P.U.heap = h ∧ P.cells + 0 ≤ R.cells ∧ P.slots + 0 ≤ R.slots)
      (fun P _ v B => ∃ L, (v = some (.int (cs.getD i 0)) ∧ L = [] ∧ B.U.heap = h) ∧ B.locs = P.locs ++ L ∧ B.cells = P.cells + 0 ∧ B.slots = P.slots + 0) := by
  subst hj
  intro m meth c P g ig mk a X hg hsize hdg hW hn hp'
  obtain ⟨rfl, rfl, r1, r2⟩ := hp'
  have al : Z.vm.Alike P.U.vm := hZ.alike.trans X.warmed.alike
  obtain ⟨A, hx⟩ := txt_of wi al E V C K hc hb l2
  obtain ⟨v, B, X', ⟨⟨hv, hh⟩, hl, hk, hs⟩, st⟩ := ChN.pays x t A cs.length (fun j => cs.getD j 0) z fm i (tabChN_of (movedChN hZ hw)) hfr hlo m meth c P g ig mk _ X hg hsize hdg hW hn ⟨r1, r2, rfl, hx, hi, sta_is al S, hz, sta_is al F, rf⟩
  exact ⟨v, B, X', ⟨[], ⟨hv, rfl, hh⟩, hl, hk, hs⟩, st⟩
end StrChars.Road
end Jvm.Pilot.@@N@@
namespace Jvm.Pilot.@@N@@
open Jvm Jvm.ClassFile Sem Op Lib Jvm.Free Jvm.Stand Jvm.LawKit Jvm.RoadKit Bundle Jvm.Own Jvm.Pilot.@@N@@.Jvm.D
abbrev own_EL : List (String × Nat) := consts_1
theorem lt0_a : ∀ c ∈ ("" : String).toList, c.toNat < 256 := by decide +kernel
theorem lt0_b : ("" : String).toList.map (fun c => Value.int (Jvm.Lit.byteI c.toNat.toUInt16)) = (([] : List Int32) : List Int32).map fun c => Value.int c.toInt8.toInt32 := by decide +kernel
theorem lt0_c : ∀ c ∈ (([] : List Int32) : List Int32), ¬ c < 0 ∧ ¬ (255 : Int32) < c := by decide +kernel
theorem lt0_d : 4 * ("" : String).toList.length = 0 := by decide +kernel
theorem lt1_a : ∀ c ∈ (": " : String).toList, c.toNat < 256 := by decide +kernel
theorem lt1_b : (": " : String).toList.map (fun c => Value.int (Jvm.Lit.byteI c.toNat.toUInt16)) = ([(58 : Int32), (32 : Int32)] : List Int32).map fun c => Value.int c.toInt8.toInt32 := by decide +kernel
theorem lt1_c : ∀ c ∈ ([(58 : Int32), (32 : Int32)] : List Int32), ¬ c < 0 ∧ ¬ (255 : Int32) < c := by decide +kernel
theorem lt1_d : 4 * (": " : String).toList.length = 8 := by decide +kernel
theorem wd_0 : (Jvm.Cond.classLink "com/example/yusen/yusen/figures/TermFileFieldProblemPinLaw" (22 : Nat) "com/example/yusen/yusen/figures/TermFileField") ∈ tables_1 := List.mem_of_getElem? (i := 0) rfl
theorem wd_1 : (Jvm.Cond.instantiable "com/example/yusen/yusen/figures/TermFileField" (2 : Nat)) ∈ tables_1 := List.mem_of_getElem? (i := 1) rfl
theorem wd_2 : (Jvm.Cond.initialized "com/example/yusen/yusen/figures/TermFileField") ∈ tables_1 := List.mem_of_getElem? (i := 2) rfl
theorem wd_3 : (Jvm.Cond.methodLink "com/example/yusen/yusen/figures/TermFileFieldProblemPinLaw" (24 : Nat) ({ cls := "com/example/yusen/yusen/figures/TermFileFieldProblemPinLaw", name := "str", desc := "(I)Ljava/lang/String;" } : Jvm.MethodName)) ∈ tables_1 := List.mem_of_getElem? (i := 3) rfl
theorem wd_4 : (Jvm.Cond.static ({ cls := "com/example/yusen/yusen/figures/TermFileFieldProblemPinLaw", name := "str", desc := "(I)Ljava/lang/String;" } : Jvm.MethodName)) ∈ tables_1 := List.mem_of_getElem? (i := 4) rfl
theorem wd_5 : (Jvm.Cond.initialized "com/example/yusen/yusen/figures/TermFileFieldProblemPinLaw") ∈ tables_1 := List.mem_of_getElem? (i := 5) rfl
theorem wd_6 : (Jvm.Cond.code ({ cls := "com/example/yusen/yusen/figures/TermFileFieldProblemPinLaw", name := "str", desc := "(I)Ljava/lang/String;" } : Jvm.MethodName) method_3_code (4 : Nat) (Option.some (Jvm.ClassFile.FieldType.object "java/lang/String"))) ∈ tables_1 := List.mem_of_getElem? (i := 6) rfl
theorem wd_7 : (Jvm.Cond.methodLink "com/example/yusen/yusen/figures/TermFileFieldProblemPinLaw" (7 : Nat) ({ cls := "com/example/yusen/yusen/figures/TermFileFieldProblemPinLaw", name := "len", desc := "(I)I" } : Jvm.MethodName)) ∈ tables_1 := List.mem_of_getElem? (i := 7) rfl
theorem wd_8 : (Jvm.Cond.static ({ cls := "com/example/yusen/yusen/figures/TermFileFieldProblemPinLaw", name := "len", desc := "(I)I" } : Jvm.MethodName)) ∈ tables_1 := List.mem_of_getElem? (i := 8) rfl
theorem wd_9 : (Jvm.Cond.code ({ cls := "com/example/yusen/yusen/figures/TermFileFieldProblemPinLaw", name := "len", desc := "(I)I" } : Jvm.MethodName) method_2_code (1 : Nat) (Option.some Jvm.ClassFile.FieldType.int)) ∈ tables_1 := List.mem_of_getElem? (i := 9) rfl
theorem wd_10 : (Jvm.Cond.classLink "com/example/yusen/yusen/figures/TermFileFieldProblemPinLaw" (13 : Nat) "java/lang/String") ∈ tables_1 := List.mem_of_getElem? (i := 10) rfl
theorem wd_11 : (Jvm.Cond.instantiable "java/lang/String" (4 : Nat)) ∈ tables_1 := List.mem_of_getElem? (i := 11) rfl
theorem wd_12 : (Jvm.Cond.initialized "java/lang/String") ∈ tables_1 := List.mem_of_getElem? (i := 12) rfl
theorem wd_13 : (Jvm.Cond.arrayClass Jvm.ClassFile.FieldType.char) ∈ tables_1 := List.mem_of_getElem? (i := 13) rfl
theorem wd_14 : (Jvm.Cond.methodLink "com/example/yusen/yusen/figures/TermFileFieldProblemPinLaw" (15 : Nat) ({ cls := "java/lang/String", name := "<init>", desc := "([C)V" } : Jvm.MethodName)) ∈ tables_1 := List.mem_of_getElem? (i := 14) rfl
theorem wd_15 : (Jvm.Cond.instanceMethod ({ cls := "java/lang/String", name := "<init>", desc := "([C)V" } : Jvm.MethodName)) ∈ tables_1 := List.mem_of_getElem? (i := 15) rfl
theorem wd_16 : (Jvm.Cond.code ({ cls := "java/lang/String", name := "<init>", desc := "([C)V" } : Jvm.MethodName) jdk_42_method_3_code (2 : Nat) (Option.none : Option Jvm.ClassFile.FieldType)) ∈ tables_1 := List.mem_of_getElem? (i := 16) rfl
theorem wd_17 : (Jvm.Cond.methodLink "java/lang/String" (27 : Nat) ({ cls := "java/lang/String", name := "<init>", desc := "([CIILjava/lang/Void;)V" } : Jvm.MethodName)) ∈ tables_1 := List.mem_of_getElem? (i := 17) rfl
theorem wd_18 : (Jvm.Cond.instanceMethod ({ cls := "java/lang/String", name := "<init>", desc := "([CIILjava/lang/Void;)V" } : Jvm.MethodName)) ∈ tables_1 := List.mem_of_getElem? (i := 18) rfl
theorem wd_20 : (Jvm.Cond.code ({ cls := "java/lang/String", name := "<init>", desc := "([CIILjava/lang/Void;)V" } : Jvm.MethodName) jdk_42_method_149_code (6 : Nat) (Option.none : Option Jvm.ClassFile.FieldType)) ∈ tables_1 := List.mem_of_getElem? (i := 20) rfl
theorem wd_21 : (Jvm.Cond.methodLink "java/lang/String" (1 : Nat) ({ cls := "java/lang/Object", name := "<init>", desc := "()V" } : Jvm.MethodName)) ∈ tables_1 := List.mem_of_getElem? (i := 21) rfl
theorem wd_22 : (Jvm.Cond.instanceMethod ({ cls := "java/lang/Object", name := "<init>", desc := "()V" } : Jvm.MethodName)) ∈ tables_1 := List.mem_of_getElem? (i := 22) rfl
theorem wd_23 : (Jvm.Cond.code ({ cls := "java/lang/Object", name := "<init>", desc := "()V" } : Jvm.MethodName) object_method_1_code (1 : Nat) (Option.none : Option Jvm.ClassFile.FieldType)) ∈ tables_1 := List.mem_of_getElem? (i := 23) rfl
theorem wd_24 : (Jvm.Cond.stringLink "java/lang/String" (7 : Nat) "") ∈ tables_1 := List.mem_of_getElem? (i := 24) rfl
theorem wd_25 : (Jvm.Cond.arrayClass Jvm.ClassFile.FieldType.byte) ∈ tables_1 := List.mem_of_getElem? (i := 25) rfl
theorem wd_26 : (Jvm.Cond.laysFinal "java/lang/String" "java/lang/String" "value" "[B") ∈ tables_1 := List.mem_of_getElem? (i := 26) rfl
theorem wd_27 : (Jvm.Cond.laysFinal "java/lang/String" "java/lang/String" "coder" "B") ∈ tables_1 := List.mem_of_getElem? (i := 27) rfl
theorem wd_28 : (Jvm.Cond.soleField "java/lang/String" "value") ∈ tables_1 := List.mem_of_getElem? (i := 28) rfl
theorem wd_29 : (Jvm.Cond.soleField "java/lang/String" "coder") ∈ tables_1 := List.mem_of_getElem? (i := 29) rfl
theorem wd_30 : (Jvm.Cond.fieldLink "java/lang/String" (9 : Nat) "java/lang/String" "value" "[B") ∈ tables_1 := List.mem_of_getElem? (i := 30) rfl
theorem wd_31 : (Jvm.Cond.fieldLink "java/lang/String" (15 : Nat) "java/lang/String" "coder" "B") ∈ tables_1 := List.mem_of_getElem? (i := 31) rfl
theorem wd_32 : (Jvm.Cond.methodLink "com/example/yusen/yusen/figures/TermFileFieldProblemPinLaw" (28 : Nat) ({ cls := "com/example/yusen/yusen/figures/TermFileField", name := "<init>", desc := "(Ljava/lang/String;Ljava/lang/String;)V" } : Jvm.MethodName)) ∈ tables_1 := List.mem_of_getElem? (i := 32) rfl
theorem wd_33 : (Jvm.Cond.instanceMethod ({ cls := "com/example/yusen/yusen/figures/TermFileField", name := "<init>", desc := "(Ljava/lang/String;Ljava/lang/String;)V" } : Jvm.MethodName)) ∈ tables_1 := List.mem_of_getElem? (i := 33) rfl
theorem wd_34 : (Jvm.Cond.code ({ cls := "com/example/yusen/yusen/figures/TermFileField", name := "<init>", desc := "(Ljava/lang/String;Ljava/lang/String;)V" } : Jvm.MethodName) prog_23_method_1_code (3 : Nat) (Option.none : Option Jvm.ClassFile.FieldType)) ∈ tables_1 := List.mem_of_getElem? (i := 34) rfl
theorem wd_35 : (Jvm.Cond.methodLink "com/example/yusen/yusen/figures/TermFileField" (1 : Nat) ({ cls := "java/lang/Object", name := "<init>", desc := "()V" } : Jvm.MethodName)) ∈ tables_1 := List.mem_of_getElem? (i := 35) rfl
theorem wd_36 : (Jvm.Cond.fieldLink "com/example/yusen/yusen/figures/TermFileField" (7 : Nat) "com/example/yusen/yusen/figures/TermFileField" "source" "Ljava/lang/String;") ∈ tables_1 := List.mem_of_getElem? (i := 36) rfl
theorem wd_37 : (Jvm.Cond.laysFinal "com/example/yusen/yusen/figures/TermFileField" "com/example/yusen/yusen/figures/TermFileField" "source" "Ljava/lang/String;") ∈ tables_1 := List.mem_of_getElem? (i := 37) rfl
theorem wd_38 : (Jvm.Cond.fieldLink "com/example/yusen/yusen/figures/TermFileField" (13 : Nat) "com/example/yusen/yusen/figures/TermFileField" "path" "Ljava/lang/String;") ∈ tables_1 := List.mem_of_getElem? (i := 38) rfl
theorem wd_39 : (Jvm.Cond.laysFinal "com/example/yusen/yusen/figures/TermFileField" "com/example/yusen/yusen/figures/TermFileField" "path" "Ljava/lang/String;") ∈ tables_1 := List.mem_of_getElem? (i := 39) rfl
theorem wd_40 : (Jvm.Cond.methodLink "com/example/yusen/yusen/figures/TermFileFieldProblemPinLaw" (31 : Nat) ({ cls := "com/example/yusen/yusen/figures/TermFileField", name := "problem", desc := "(Ljava/lang/String;)Lcom/example/yusen/yusen/figures/TermFileException;" } : Jvm.MethodName)) ∈ tables_1 := List.mem_of_getElem? (i := 40) rfl
theorem wd_41 : (Jvm.Cond.declares ({ cls := "com/example/yusen/yusen/figures/TermFileField", name := "problem", desc := "(Ljava/lang/String;)Lcom/example/yusen/yusen/figures/TermFileException;" } : Jvm.MethodName)) ∈ tables_1 := List.mem_of_getElem? (i := 41) rfl
theorem wd_42 : (Jvm.Cond.instanceMethod ({ cls := "com/example/yusen/yusen/figures/TermFileField", name := "problem", desc := "(Ljava/lang/String;)Lcom/example/yusen/yusen/figures/TermFileException;" } : Jvm.MethodName)) ∈ tables_1 := List.mem_of_getElem? (i := 42) rfl
theorem wd_43 : (Jvm.Cond.selects "com/example/yusen/yusen/figures/TermFileField" ({ cls := "com/example/yusen/yusen/figures/TermFileField", name := "problem", desc := "(Ljava/lang/String;)Lcom/example/yusen/yusen/figures/TermFileException;" } : Jvm.MethodName) ({ cls := "com/example/yusen/yusen/figures/TermFileField", name := "problem", desc := "(Ljava/lang/String;)Lcom/example/yusen/yusen/figures/TermFileException;" } : Jvm.MethodName)) ∈ tables_1 := List.mem_of_getElem? (i := 43) rfl
theorem wd_44 : (Jvm.Cond.code ({ cls := "com/example/yusen/yusen/figures/TermFileField", name := "problem", desc := "(Ljava/lang/String;)Lcom/example/yusen/yusen/figures/TermFileException;" } : Jvm.MethodName) prog_23_method_2_code (2 : Nat) (Option.some (Jvm.ClassFile.FieldType.object "com/example/yusen/yusen/figures/TermFileException"))) ∈ tables_1 := List.mem_of_getElem? (i := 44) rfl
theorem wd_45 : (Jvm.Cond.classLink "com/example/yusen/yusen/figures/TermFileField" (16 : Nat) "com/example/yusen/yusen/figures/TermFileException") ∈ tables_1 := List.mem_of_getElem? (i := 45) rfl
theorem wd_46 : (Jvm.Cond.instantiable "com/example/yusen/yusen/figures/TermFileException" (6 : Nat)) ∈ tables_1 := List.mem_of_getElem? (i := 46) rfl
theorem wd_47 : (Jvm.Cond.initialized "com/example/yusen/yusen/figures/TermFileException") ∈ tables_1 := List.mem_of_getElem? (i := 47) rfl
theorem wd_48 : (Jvm.Cond.methodLink "com/example/yusen/yusen/figures/TermFileField" (18 : Nat) ({ cls := "com/example/yusen/yusen/figures/TermFileException", name := "<init>", desc := "(Ljava/lang/String;Ljava/lang/String;Ljava/lang/String;)V" } : Jvm.MethodName)) ∈ tables_1 := List.mem_of_getElem? (i := 48) rfl
theorem wd_49 : (Jvm.Cond.instanceMethod ({ cls := "com/example/yusen/yusen/figures/TermFileException", name := "<init>", desc := "(Ljava/lang/String;Ljava/lang/String;Ljava/lang/String;)V" } : Jvm.MethodName)) ∈ tables_1 := List.mem_of_getElem? (i := 49) rfl
theorem wd_50 : (Jvm.Cond.code ({ cls := "com/example/yusen/yusen/figures/TermFileException", name := "<init>", desc := "(Ljava/lang/String;Ljava/lang/String;Ljava/lang/String;)V" } : Jvm.MethodName) prog_22_method_1_code (4 : Nat) (Option.none : Option Jvm.ClassFile.FieldType)) ∈ tables_1 := List.mem_of_getElem? (i := 50) rfl
theorem wd_51 : (Jvm.Cond.classLink "com/example/yusen/yusen/figures/TermFileException" (1 : Nat) "java/lang/StringBuilder") ∈ tables_1 := List.mem_of_getElem? (i := 51) rfl
theorem wd_52 : (Jvm.Cond.instantiable "java/lang/StringBuilder" (4 : Nat)) ∈ tables_1 := List.mem_of_getElem? (i := 52) rfl
theorem wd_53 : (Jvm.Cond.initialized "java/lang/StringBuilder") ∈ tables_1 := List.mem_of_getElem? (i := 53) rfl
theorem wd_54 : (Jvm.Cond.methodLink "com/example/yusen/yusen/figures/TermFileException" (3 : Nat) ({ cls := "java/lang/StringBuilder", name := "<init>", desc := "()V" } : Jvm.MethodName)) ∈ tables_1 := List.mem_of_getElem? (i := 54) rfl
theorem wd_55 : (Jvm.Cond.instanceMethod ({ cls := "java/lang/StringBuilder", name := "<init>", desc := "()V" } : Jvm.MethodName)) ∈ tables_1 := List.mem_of_getElem? (i := 55) rfl
theorem wd_56 : (Jvm.Cond.code ({ cls := "java/lang/StringBuilder", name := "<init>", desc := "()V" } : Jvm.MethodName) jdk_67_method_1_code (1 : Nat) (Option.none : Option Jvm.ClassFile.FieldType)) ∈ tables_1 := List.mem_of_getElem? (i := 56) rfl
theorem wd_57 : (Jvm.Cond.methodLink "java/lang/StringBuilder" (1 : Nat) ({ cls := "java/lang/AbstractStringBuilder", name := "<init>", desc := "(I)V" } : Jvm.MethodName)) ∈ tables_1 := List.mem_of_getElem? (i := 57) rfl
theorem wd_58 : (Jvm.Cond.instanceMethod ({ cls := "java/lang/AbstractStringBuilder", name := "<init>", desc := "(I)V" } : Jvm.MethodName)) ∈ tables_1 := List.mem_of_getElem? (i := 58) rfl
theorem wd_61 : (Jvm.Cond.initialized "java/lang/AbstractStringBuilder") ∈ tables_1 := List.mem_of_getElem? (i := 61) rfl
theorem wd_62 : (Jvm.Cond.code ({ cls := "java/lang/AbstractStringBuilder", name := "<init>", desc := "(I)V" } : Jvm.MethodName) jdk_68_method_2_code (2 : Nat) (Option.none : Option Jvm.ClassFile.FieldType)) ∈ tables_1 := List.mem_of_getElem? (i := 62) rfl
theorem wd_63 : (Jvm.Cond.methodLink "java/lang/AbstractStringBuilder" (3 : Nat) ({ cls := "java/lang/Object", name := "<init>", desc := "()V" } : Jvm.MethodName)) ∈ tables_1 := List.mem_of_getElem? (i := 63) rfl
theorem wd_64 : (Jvm.Cond.fieldLink "java/lang/AbstractStringBuilder" (18 : Nat) "java/lang/String" "COMPACT_STRINGS" "Z") ∈ tables_1 := List.mem_of_getElem? (i := 64) rfl
theorem wd_65 : (Jvm.Cond.fieldLink "java/lang/AbstractStringBuilder" (15 : Nat) "java/lang/AbstractStringBuilder" "value" "[B") ∈ tables_1 := List.mem_of_getElem? (i := 65) rfl
theorem wd_66 : (Jvm.Cond.lays "java/lang/StringBuilder" "java/lang/AbstractStringBuilder" "value" "[B") ∈ tables_1 := List.mem_of_getElem? (i := 66) rfl
theorem wd_67 : (Jvm.Cond.fieldLink "java/lang/AbstractStringBuilder" (22 : Nat) "java/lang/AbstractStringBuilder" "coder" "B") ∈ tables_1 := List.mem_of_getElem? (i := 67) rfl
theorem wd_68 : (Jvm.Cond.lays "java/lang/StringBuilder" "java/lang/AbstractStringBuilder" "coder" "B") ∈ tables_1 := List.mem_of_getElem? (i := 68) rfl
theorem wd_69 : (Jvm.Cond.methodLink "com/example/yusen/yusen/figures/TermFileException" (7 : Nat) ({ cls := "java/lang/StringBuilder", name := "append", desc := "(Ljava/lang/String;)Ljava/lang/StringBuilder;" } : Jvm.MethodName)) ∈ tables_1 := List.mem_of_getElem? (i := 69) rfl
theorem wd_70 : (Jvm.Cond.declares ({ cls := "java/lang/StringBuilder", name := "append", desc := "(Ljava/lang/String;)Ljava/lang/StringBuilder;" } : Jvm.MethodName)) ∈ tables_1 := List.mem_of_getElem? (i := 70) rfl
theorem wd_71 : (Jvm.Cond.instanceMethod ({ cls := "java/lang/StringBuilder", name := "append", desc := "(Ljava/lang/String;)Ljava/lang/StringBuilder;" } : Jvm.MethodName)) ∈ tables_1 := List.mem_of_getElem? (i := 71) rfl
theorem wd_72 : (Jvm.Cond.selects "java/lang/StringBuilder" ({ cls := "java/lang/StringBuilder", name := "append", desc := "(Ljava/lang/String;)Ljava/lang/StringBuilder;" } : Jvm.MethodName) ({ cls := "java/lang/StringBuilder", name := "append", desc := "(Ljava/lang/String;)Ljava/lang/StringBuilder;" } : Jvm.MethodName)) ∈ tables_1 := List.mem_of_getElem? (i := 72) rfl
theorem wd_73 : (Jvm.Cond.code ({ cls := "java/lang/StringBuilder", name := "append", desc := "(Ljava/lang/String;)Ljava/lang/StringBuilder;" } : Jvm.MethodName) jdk_67_method_7_code (2 : Nat) (Option.some (Jvm.ClassFile.FieldType.object "java/lang/StringBuilder"))) ∈ tables_1 := List.mem_of_getElem? (i := 73) rfl
theorem wd_74 : (Jvm.Cond.methodLink "java/lang/StringBuilder" (29 : Nat) ({ cls := "java/lang/AbstractStringBuilder", name := "append", desc := "(Ljava/lang/String;)Ljava/lang/AbstractStringBuilder;" } : Jvm.MethodName)) ∈ tables_1 := List.mem_of_getElem? (i := 74) rfl
theorem wd_75 : (Jvm.Cond.instanceMethod ({ cls := "java/lang/AbstractStringBuilder", name := "append", desc := "(Ljava/lang/String;)Ljava/lang/AbstractStringBuilder;" } : Jvm.MethodName)) ∈ tables_1 := List.mem_of_getElem? (i := 75) rfl
theorem wd_76 : (Jvm.Cond.superclass "java/lang/StringBuilder" "java/lang/AbstractStringBuilder") ∈ tables_1 := List.mem_of_getElem? (i := 76) rfl
theorem wd_77 : (Jvm.Cond.declares ({ cls := "java/lang/AbstractStringBuilder", name := "append", desc := "(Ljava/lang/String;)Ljava/lang/AbstractStringBuilder;" } : Jvm.MethodName)) ∈ tables_1 := List.mem_of_getElem? (i := 77) rfl
theorem wd_78 : (Jvm.Cond.code ({ cls := "java/lang/AbstractStringBuilder", name := "append", desc := "(Ljava/lang/String;)Ljava/lang/AbstractStringBuilder;" } : Jvm.MethodName) jdk_68_method_22_code (3 : Nat) (Option.some (Jvm.ClassFile.FieldType.object "java/lang/AbstractStringBuilder"))) ∈ tables_1 := List.mem_of_getElem? (i := 78) rfl
theorem wd_79 : (Jvm.Cond.methodLink "java/lang/AbstractStringBuilder" (32 : Nat) ({ cls := "java/lang/String", name := "length", desc := "()I" } : Jvm.MethodName)) ∈ tables_1 := List.mem_of_getElem? (i := 79) rfl
theorem wd_80 : (Jvm.Cond.declares ({ cls := "java/lang/String", name := "length", desc := "()I" } : Jvm.MethodName)) ∈ tables_1 := List.mem_of_getElem? (i := 80) rfl
theorem wd_81 : (Jvm.Cond.instanceMethod ({ cls := "java/lang/String", name := "length", desc := "()I" } : Jvm.MethodName)) ∈ tables_1 := List.mem_of_getElem? (i := 81) rfl
theorem wd_82 : (Jvm.Cond.selects "java/lang/String" ({ cls := "java/lang/String", name := "length", desc := "()I" } : Jvm.MethodName) ({ cls := "java/lang/String", name := "length", desc := "()I" } : Jvm.MethodName)) ∈ tables_1 := List.mem_of_getElem? (i := 82) rfl
theorem wd_84 : (Jvm.Cond.methodLink "java/lang/String" (335 : Nat) ({ cls := "java/lang/String", name := "coder", desc := "()B" } : Jvm.MethodName)) ∈ tables_1 := List.mem_of_getElem? (i := 84) rfl
theorem wd_85 : (Jvm.Cond.declares ({ cls := "java/lang/String", name := "coder", desc := "()B" } : Jvm.MethodName)) ∈ tables_1 := List.mem_of_getElem? (i := 85) rfl
theorem wd_86 : (Jvm.Cond.instanceMethod ({ cls := "java/lang/String", name := "coder", desc := "()B" } : Jvm.MethodName)) ∈ tables_1 := List.mem_of_getElem? (i := 86) rfl
theorem wd_87 : (Jvm.Cond.selects "java/lang/String" ({ cls := "java/lang/String", name := "coder", desc := "()B" } : Jvm.MethodName) ({ cls := "java/lang/String", name := "coder", desc := "()B" } : Jvm.MethodName)) ∈ tables_1 := List.mem_of_getElem? (i := 87) rfl
theorem wd_88 : (Jvm.Cond.code ({ cls := "java/lang/String", name := "coder", desc := "()B" } : Jvm.MethodName) jdk_42_method_152_code (1 : Nat) (Option.some Jvm.ClassFile.FieldType.byte)) ∈ tables_1 := List.mem_of_getElem? (i := 88) rfl
theorem wd_89 : (Jvm.Cond.fieldLink "java/lang/String" (38 : Nat) "java/lang/String" "COMPACT_STRINGS" "Z") ∈ tables_1 := List.mem_of_getElem? (i := 89) rfl
theorem wd_90 : (Jvm.Cond.fieldLink "java/lang/AbstractStringBuilder" (79 : Nat) "java/lang/AbstractStringBuilder" "count" "I") ∈ tables_1 := List.mem_of_getElem? (i := 90) rfl
theorem wd_91 : (Jvm.Cond.lays "java/lang/StringBuilder" "java/lang/AbstractStringBuilder" "count" "I") ∈ tables_1 := List.mem_of_getElem? (i := 91) rfl
theorem wd_92 : (Jvm.Cond.methodLink "java/lang/AbstractStringBuilder" (100 : Nat) ({ cls := "java/lang/AbstractStringBuilder", name := "ensureCapacityInternal", desc := "(I)V" } : Jvm.MethodName)) ∈ tables_1 := List.mem_of_getElem? (i := 92) rfl
theorem wd_93 : (Jvm.Cond.instanceMethod ({ cls := "java/lang/AbstractStringBuilder", name := "ensureCapacityInternal", desc := "(I)V" } : Jvm.MethodName)) ∈ tables_1 := List.mem_of_getElem? (i := 93) rfl
theorem wd_94 : (Jvm.Cond.privateMethod ({ cls := "java/lang/AbstractStringBuilder", name := "ensureCapacityInternal", desc := "(I)V" } : Jvm.MethodName)) ∈ tables_1 := List.mem_of_getElem? (i := 94) rfl
theorem wd_95 : (Jvm.Cond.selects "java/lang/StringBuilder" ({ cls := "java/lang/AbstractStringBuilder", name := "ensureCapacityInternal", desc := "(I)V" } : Jvm.MethodName) ({ cls := "java/lang/AbstractStringBuilder", name := "ensureCapacityInternal", desc := "(I)V" } : Jvm.MethodName)) ∈ tables_1 := List.mem_of_getElem? (i := 95) rfl
theorem wd_96 : (Jvm.Cond.code ({ cls := "java/lang/AbstractStringBuilder", name := "ensureCapacityInternal", desc := "(I)V" } : Jvm.MethodName) jdk_68_method_9_code (3 : Nat) (Option.none : Option Jvm.ClassFile.FieldType)) ∈ tables_1 := List.mem_of_getElem? (i := 96) rfl
theorem wd_97 : (Jvm.Cond.methodLink "java/lang/AbstractStringBuilder" (208 : Nat) ({ cls := "java/lang/AbstractStringBuilder", name := "putStringAt", desc := "(ILjava/lang/String;)V" } : Jvm.MethodName)) ∈ tables_1 := List.mem_of_getElem? (i := 97) rfl
theorem wd_98 : (Jvm.Cond.instanceMethod ({ cls := "java/lang/AbstractStringBuilder", name := "putStringAt", desc := "(ILjava/lang/String;)V" } : Jvm.MethodName)) ∈ tables_1 := List.mem_of_getElem? (i := 98) rfl
theorem wd_99 : (Jvm.Cond.privateMethod ({ cls := "java/lang/AbstractStringBuilder", name := "putStringAt", desc := "(ILjava/lang/String;)V" } : Jvm.MethodName)) ∈ tables_1 := List.mem_of_getElem? (i := 99) rfl
theorem wd_100 : (Jvm.Cond.selects "java/lang/StringBuilder" ({ cls := "java/lang/AbstractStringBuilder", name := "putStringAt", desc := "(ILjava/lang/String;)V" } : Jvm.MethodName) ({ cls := "java/lang/AbstractStringBuilder", name := "putStringAt", desc := "(ILjava/lang/String;)V" } : Jvm.MethodName)) ∈ tables_1 := List.mem_of_getElem? (i := 100) rfl
theorem wd_101 : (Jvm.Cond.code ({ cls := "java/lang/AbstractStringBuilder", name := "putStringAt", desc := "(ILjava/lang/String;)V" } : Jvm.MethodName) jdk_68_method_73_code (3 : Nat) (Option.none : Option Jvm.ClassFile.FieldType)) ∈ tables_1 := List.mem_of_getElem? (i := 101) rfl
theorem wd_102 : (Jvm.Cond.methodLink "java/lang/AbstractStringBuilder" (397 : Nat) ({ cls := "java/lang/AbstractStringBuilder", name := "inflateIfNeededFor", desc := "(Ljava/lang/String;)V" } : Jvm.MethodName)) ∈ tables_1 := List.mem_of_getElem? (i := 102) rfl
theorem wd_103 : (Jvm.Cond.instanceMethod ({ cls := "java/lang/AbstractStringBuilder", name := "inflateIfNeededFor", desc := "(Ljava/lang/String;)V" } : Jvm.MethodName)) ∈ tables_1 := List.mem_of_getElem? (i := 103) rfl
theorem wd_104 : (Jvm.Cond.privateMethod ({ cls := "java/lang/AbstractStringBuilder", name := "inflateIfNeededFor", desc := "(Ljava/lang/String;)V" } : Jvm.MethodName)) ∈ tables_1 := List.mem_of_getElem? (i := 104) rfl
theorem wd_105 : (Jvm.Cond.selects "java/lang/StringBuilder" ({ cls := "java/lang/AbstractStringBuilder", name := "inflateIfNeededFor", desc := "(Ljava/lang/String;)V" } : Jvm.MethodName) ({ cls := "java/lang/AbstractStringBuilder", name := "inflateIfNeededFor", desc := "(Ljava/lang/String;)V" } : Jvm.MethodName)) ∈ tables_1 := List.mem_of_getElem? (i := 105) rfl
theorem wd_106 : (Jvm.Cond.code ({ cls := "java/lang/AbstractStringBuilder", name := "inflateIfNeededFor", desc := "(Ljava/lang/String;)V" } : Jvm.MethodName) jdk_68_method_71_code (2 : Nat) (Option.none : Option Jvm.ClassFile.FieldType)) ∈ tables_1 := List.mem_of_getElem? (i := 106) rfl
theorem wd_107 : (Jvm.Cond.methodLink "java/lang/AbstractStringBuilder" (40 : Nat) ({ cls := "java/lang/String", name := "coder", desc := "()B" } : Jvm.MethodName)) ∈ tables_1 := List.mem_of_getElem? (i := 107) rfl
theorem wd_108 : (Jvm.Cond.methodLink "java/lang/AbstractStringBuilder" (399 : Nat) ({ cls := "java/lang/String", name := "getBytes", desc := "([BIB)V" } : Jvm.MethodName)) ∈ tables_1 := List.mem_of_getElem? (i := 108) rfl
theorem wd_109 : (Jvm.Cond.declares ({ cls := "java/lang/String", name := "getBytes", desc := "([BIB)V" } : Jvm.MethodName)) ∈ tables_1 := List.mem_of_getElem? (i := 109) rfl
theorem wd_110 : (Jvm.Cond.instanceMethod ({ cls := "java/lang/String", name := "getBytes", desc := "([BIB)V" } : Jvm.MethodName)) ∈ tables_1 := List.mem_of_getElem? (i := 110) rfl
theorem wd_111 : (Jvm.Cond.selects "java/lang/String" ({ cls := "java/lang/String", name := "getBytes", desc := "([BIB)V" } : Jvm.MethodName) ({ cls := "java/lang/String", name := "getBytes", desc := "([BIB)V" } : Jvm.MethodName)) ∈ tables_1 := List.mem_of_getElem? (i := 111) rfl
theorem wd_112 : (Jvm.Cond.code ({ cls := "java/lang/String", name := "getBytes", desc := "([BIB)V" } : Jvm.MethodName) jdk_42_method_147_code (4 : Nat) (Option.none : Option Jvm.ClassFile.FieldType)) ∈ tables_1 := List.mem_of_getElem? (i := 112) rfl
theorem wd_113 : (Jvm.Cond.methodLink "java/lang/String" (212 : Nat) ({ cls := "java/lang/System", name := "arraycopy", desc := "(Ljava/lang/Object;ILjava/lang/Object;II)V" } : Jvm.MethodName)) ∈ tables_1 := List.mem_of_getElem? (i := 113) rfl
theorem wd_114 : (Jvm.Cond.static ({ cls := "java/lang/System", name := "arraycopy", desc := "(Ljava/lang/Object;ILjava/lang/Object;II)V" } : Jvm.MethodName)) ∈ tables_1 := List.mem_of_getElem? (i := 114) rfl
theorem wd_115 : (Jvm.Cond.initialized "java/lang/System") ∈ tables_1 := List.mem_of_getElem? (i := 115) rfl
theorem wd_116 : (Jvm.Cond.native ({ cls := "java/lang/System", name := "arraycopy", desc := "(Ljava/lang/Object;ILjava/lang/Object;II)V" } : Jvm.MethodName)) ∈ tables_1 := List.mem_of_getElem? (i := 116) rfl
theorem wd_117 : (Jvm.Cond.stringLink "com/example/yusen/yusen/figures/TermFileException" (11 : Nat) ": ") ∈ tables_1 := List.mem_of_getElem? (i := 117) rfl
theorem wd_118 : (Jvm.Cond.methodLink "com/example/yusen/yusen/figures/TermFileException" (13 : Nat) ({ cls := "java/lang/StringBuilder", name := "toString", desc := "()Ljava/lang/String;" } : Jvm.MethodName)) ∈ tables_1 := List.mem_of_getElem? (i := 118) rfl
theorem wd_119 : (Jvm.Cond.declares ({ cls := "java/lang/StringBuilder", name := "toString", desc := "()Ljava/lang/String;" } : Jvm.MethodName)) ∈ tables_1 := List.mem_of_getElem? (i := 119) rfl
theorem wd_120 : (Jvm.Cond.instanceMethod ({ cls := "java/lang/StringBuilder", name := "toString", desc := "()Ljava/lang/String;" } : Jvm.MethodName)) ∈ tables_1 := List.mem_of_getElem? (i := 120) rfl
theorem wd_121 : (Jvm.Cond.selects "java/lang/StringBuilder" ({ cls := "java/lang/StringBuilder", name := "toString", desc := "()Ljava/lang/String;" } : Jvm.MethodName) ({ cls := "java/lang/StringBuilder", name := "toString", desc := "()Ljava/lang/String;" } : Jvm.MethodName)) ∈ tables_1 := List.mem_of_getElem? (i := 121) rfl
theorem wd_122 : (Jvm.Cond.code ({ cls := "java/lang/StringBuilder", name := "toString", desc := "()Ljava/lang/String;" } : Jvm.MethodName) jdk_67_method_42_code (1 : Nat) (Option.some (Jvm.ClassFile.FieldType.object "java/lang/String"))) ∈ tables_1 := List.mem_of_getElem? (i := 122) rfl
theorem wd_123 : (Jvm.Cond.classLink "java/lang/StringBuilder" (18 : Nat) "java/lang/String") ∈ tables_1 := List.mem_of_getElem? (i := 123) rfl
theorem wd_124 : (Jvm.Cond.methodLink "java/lang/StringBuilder" (137 : Nat) ({ cls := "java/lang/String", name := "<init>", desc := "(Ljava/lang/StringBuilder;)V" } : Jvm.MethodName)) ∈ tables_1 := List.mem_of_getElem? (i := 124) rfl
theorem wd_125 : (Jvm.Cond.instanceMethod ({ cls := "java/lang/String", name := "<init>", desc := "(Ljava/lang/StringBuilder;)V" } : Jvm.MethodName)) ∈ tables_1 := List.mem_of_getElem? (i := 125) rfl
theorem wd_126 : (Jvm.Cond.code ({ cls := "java/lang/String", name := "<init>", desc := "(Ljava/lang/StringBuilder;)V" } : Jvm.MethodName) jdk_42_method_53_code (2 : Nat) (Option.none : Option Jvm.ClassFile.FieldType)) ∈ tables_1 := List.mem_of_getElem? (i := 126) rfl
theorem wd_127 : (Jvm.Cond.methodLink "java/lang/String" (489 : Nat) ({ cls := "java/lang/String", name := "<init>", desc := "(Ljava/lang/AbstractStringBuilder;Ljava/lang/Void;)V" } : Jvm.MethodName)) ∈ tables_1 := List.mem_of_getElem? (i := 127) rfl
theorem wd_128 : (Jvm.Cond.instanceMethod ({ cls := "java/lang/String", name := "<init>", desc := "(Ljava/lang/AbstractStringBuilder;Ljava/lang/Void;)V" } : Jvm.MethodName)) ∈ tables_1 := List.mem_of_getElem? (i := 128) rfl
theorem wd_129 : (Jvm.Cond.code ({ cls := "java/lang/String", name := "<init>", desc := "(Ljava/lang/AbstractStringBuilder;Ljava/lang/Void;)V" } : Jvm.MethodName) jdk_42_method_150_code (5 : Nat) (Option.none : Option Jvm.ClassFile.FieldType)) ∈ tables_1 := List.mem_of_getElem? (i := 129) rfl
theorem wd_130 : (Jvm.Cond.methodLink "java/lang/String" (552 : Nat) ({ cls := "java/lang/AbstractStringBuilder", name := "getValue", desc := "()[B" } : Jvm.MethodName)) ∈ tables_1 := List.mem_of_getElem? (i := 130) rfl
theorem wd_131 : (Jvm.Cond.declares ({ cls := "java/lang/AbstractStringBuilder", name := "getValue", desc := "()[B" } : Jvm.MethodName)) ∈ tables_1 := List.mem_of_getElem? (i := 131) rfl
theorem wd_132 : (Jvm.Cond.instanceMethod ({ cls := "java/lang/AbstractStringBuilder", name := "getValue", desc := "()[B" } : Jvm.MethodName)) ∈ tables_1 := List.mem_of_getElem? (i := 132) rfl
theorem wd_133 : (Jvm.Cond.selects "java/lang/StringBuilder" ({ cls := "java/lang/AbstractStringBuilder", name := "getValue", desc := "()[B" } : Jvm.MethodName) ({ cls := "java/lang/AbstractStringBuilder", name := "getValue", desc := "()[B" } : Jvm.MethodName)) ∈ tables_1 := List.mem_of_getElem? (i := 133) rfl
theorem wd_134 : (Jvm.Cond.code ({ cls := "java/lang/AbstractStringBuilder", name := "getValue", desc := "()[B" } : Jvm.MethodName) jdk_68_method_64_code (1 : Nat) (Option.some (Jvm.ClassFile.FieldType.array Jvm.ClassFile.FieldType.byte))) ∈ tables_1 := List.mem_of_getElem? (i := 134) rfl
theorem wd_135 : (Jvm.Cond.methodLink "java/lang/String" (549 : Nat) ({ cls := "java/lang/AbstractStringBuilder", name := "length", desc := "()I" } : Jvm.MethodName)) ∈ tables_1 := List.mem_of_getElem? (i := 135) rfl
theorem wd_136 : (Jvm.Cond.declares ({ cls := "java/lang/AbstractStringBuilder", name := "length", desc := "()I" } : Jvm.MethodName)) ∈ tables_1 := List.mem_of_getElem? (i := 136) rfl
theorem wd_137 : (Jvm.Cond.instanceMethod ({ cls := "java/lang/AbstractStringBuilder", name := "length", desc := "()I" } : Jvm.MethodName)) ∈ tables_1 := List.mem_of_getElem? (i := 137) rfl
theorem wd_138 : (Jvm.Cond.selects "java/lang/StringBuilder" ({ cls := "java/lang/AbstractStringBuilder", name := "length", desc := "()I" } : Jvm.MethodName) ({ cls := "java/lang/StringBuilder", name := "length", desc := "()I" } : Jvm.MethodName)) ∈ tables_1 := List.mem_of_getElem? (i := 138) rfl
theorem wd_139 : (Jvm.Cond.instanceMethod ({ cls := "java/lang/StringBuilder", name := "length", desc := "()I" } : Jvm.MethodName)) ∈ tables_1 := List.mem_of_getElem? (i := 139) rfl
theorem wd_140 : (Jvm.Cond.code ({ cls := "java/lang/StringBuilder", name := "length", desc := "()I" } : Jvm.MethodName) jdk_67_method_93_code (1 : Nat) (Option.some Jvm.ClassFile.FieldType.int)) ∈ tables_1 := List.mem_of_getElem? (i := 140) rfl
theorem wd_141 : (Jvm.Cond.methodLink "java/lang/StringBuilder" (343 : Nat) ({ cls := "java/lang/AbstractStringBuilder", name := "length", desc := "()I" } : Jvm.MethodName)) ∈ tables_1 := List.mem_of_getElem? (i := 141) rfl
theorem wd_142 : (Jvm.Cond.code ({ cls := "java/lang/AbstractStringBuilder", name := "length", desc := "()I" } : Jvm.MethodName) jdk_68_method_6_code (1 : Nat) (Option.some Jvm.ClassFile.FieldType.int)) ∈ tables_1 := List.mem_of_getElem? (i := 142) rfl
theorem wd_143 : (Jvm.Cond.methodLink "java/lang/String" (1047 : Nat) ({ cls := "java/lang/AbstractStringBuilder", name := "isLatin1", desc := "()Z" } : Jvm.MethodName)) ∈ tables_1 := List.mem_of_getElem? (i := 143) rfl
theorem wd_144 : (Jvm.Cond.declares ({ cls := "java/lang/AbstractStringBuilder", name := "isLatin1", desc := "()Z" } : Jvm.MethodName)) ∈ tables_1 := List.mem_of_getElem? (i := 144) rfl
theorem wd_145 : (Jvm.Cond.instanceMethod ({ cls := "java/lang/AbstractStringBuilder", name := "isLatin1", desc := "()Z" } : Jvm.MethodName)) ∈ tables_1 := List.mem_of_getElem? (i := 145) rfl
theorem wd_146 : (Jvm.Cond.selects "java/lang/StringBuilder" ({ cls := "java/lang/AbstractStringBuilder", name := "isLatin1", desc := "()Z" } : Jvm.MethodName) ({ cls := "java/lang/AbstractStringBuilder", name := "isLatin1", desc := "()Z" } : Jvm.MethodName)) ∈ tables_1 := List.mem_of_getElem? (i := 146) rfl
theorem wd_147 : (Jvm.Cond.code ({ cls := "java/lang/AbstractStringBuilder", name := "isLatin1", desc := "()Z" } : Jvm.MethodName) jdk_68_method_68_code (1 : Nat) (Option.some Jvm.ClassFile.FieldType.boolean)) ∈ tables_1 := List.mem_of_getElem? (i := 147) rfl
theorem wd_148 : (Jvm.Cond.methodLink "java/lang/String" (54 : Nat) ({ cls := "java/util/Arrays", name := "copyOfRange", desc := "([BII)[B" } : Jvm.MethodName)) ∈ tables_1 := List.mem_of_getElem? (i := 148) rfl
theorem wd_149 : (Jvm.Cond.static ({ cls := "java/util/Arrays", name := "copyOfRange", desc := "([BII)[B" } : Jvm.MethodName)) ∈ tables_1 := List.mem_of_getElem? (i := 149) rfl
theorem wd_150 : (Jvm.Cond.initialized "java/util/Arrays") ∈ tables_1 := List.mem_of_getElem? (i := 150) rfl
theorem wd_151 : (Jvm.Cond.code ({ cls := "java/util/Arrays", name := "copyOfRange", desc := "([BII)[B" } : Jvm.MethodName) jdk_65_method_132_code (3 : Nat) (Option.some (Jvm.ClassFile.FieldType.array Jvm.ClassFile.FieldType.byte))) ∈ tables_1 := List.mem_of_getElem? (i := 151) rfl
theorem wd_152 : (Jvm.Cond.methodLink "java/util/Arrays" (339 : Nat) ({ cls := "java/util/Arrays", name := "copyOfRangeByte", desc := "([BII)[B" } : Jvm.MethodName)) ∈ tables_1 := List.mem_of_getElem? (i := 152) rfl
theorem wd_153 : (Jvm.Cond.static ({ cls := "java/util/Arrays", name := "copyOfRangeByte", desc := "([BII)[B" } : Jvm.MethodName)) ∈ tables_1 := List.mem_of_getElem? (i := 153) rfl
theorem wd_154 : (Jvm.Cond.code ({ cls := "java/util/Arrays", name := "copyOfRangeByte", desc := "([BII)[B" } : Jvm.MethodName) jdk_65_method_133_code (5 : Nat) (Option.some (Jvm.ClassFile.FieldType.array Jvm.ClassFile.FieldType.byte))) ∈ tables_1 := List.mem_of_getElem? (i := 154) rfl
theorem wd_155 : (Jvm.Cond.methodLink "java/util/Arrays" (343 : Nat) ({ cls := "java/util/Arrays", name := "checkLength", desc := "(II)V" } : Jvm.MethodName)) ∈ tables_1 := List.mem_of_getElem? (i := 155) rfl
theorem wd_156 : (Jvm.Cond.static ({ cls := "java/util/Arrays", name := "checkLength", desc := "(II)V" } : Jvm.MethodName)) ∈ tables_1 := List.mem_of_getElem? (i := 156) rfl
theorem wd_157 : (Jvm.Cond.code ({ cls := "java/util/Arrays", name := "checkLength", desc := "(II)V" } : Jvm.MethodName) jdk_65_method_131_code (2 : Nat) (Option.none : Option Jvm.ClassFile.FieldType)) ∈ tables_1 := List.mem_of_getElem? (i := 157) rfl
theorem wd_158 : (Jvm.Cond.methodLink "java/util/Arrays" (304 : Nat) ({ cls := "java/lang/Math", name := "min", desc := "(II)I" } : Jvm.MethodName)) ∈ tables_1 := List.mem_of_getElem? (i := 158) rfl
theorem wd_159 : (Jvm.Cond.static ({ cls := "java/lang/Math", name := "min", desc := "(II)I" } : Jvm.MethodName)) ∈ tables_1 := List.mem_of_getElem? (i := 159) rfl
theorem wd_160 : (Jvm.Cond.initialized "java/lang/Math") ∈ tables_1 := List.mem_of_getElem? (i := 160) rfl
theorem wd_161 : (Jvm.Cond.code ({ cls := "java/lang/Math", name := "min", desc := "(II)I" } : Jvm.MethodName) jdk_29_method_69_code (2 : Nat) (Option.some Jvm.ClassFile.FieldType.int)) ∈ tables_1 := List.mem_of_getElem? (i := 161) rfl
theorem wd_162 : (Jvm.Cond.methodLink "java/util/Arrays" (150 : Nat) ({ cls := "java/lang/System", name := "arraycopy", desc := "(Ljava/lang/Object;ILjava/lang/Object;II)V" } : Jvm.MethodName)) ∈ tables_1 := List.mem_of_getElem? (i := 162) rfl
theorem wd_163 : (Jvm.Cond.methodLink "com/example/yusen/yusen/figures/TermFileException" (17 : Nat) ({ cls := "com/example/yusen/yusen/figures/InputException", name := "<init>", desc := "(Ljava/lang/String;)V" } : Jvm.MethodName)) ∈ tables_1 := List.mem_of_getElem? (i := 163) rfl
theorem wd_164 : (Jvm.Cond.instanceMethod ({ cls := "com/example/yusen/yusen/figures/InputException", name := "<init>", desc := "(Ljava/lang/String;)V" } : Jvm.MethodName)) ∈ tables_1 := List.mem_of_getElem? (i := 164) rfl
theorem wd_166 : (Jvm.Cond.initialized "com/example/yusen/yusen/figures/InputException") ∈ tables_1 := List.mem_of_getElem? (i := 166) rfl
theorem wd_167 : (Jvm.Cond.code ({ cls := "com/example/yusen/yusen/figures/InputException", name := "<init>", desc := "(Ljava/lang/String;)V" } : Jvm.MethodName) prog_17_method_1_code (2 : Nat) (Option.none : Option Jvm.ClassFile.FieldType)) ∈ tables_1 := List.mem_of_getElem? (i := 167) rfl
theorem wd_168 : (Jvm.Cond.methodLink "com/example/yusen/yusen/figures/InputException" (1 : Nat) ({ cls := "java/lang/Exception", name := "<init>", desc := "(Ljava/lang/String;)V" } : Jvm.MethodName)) ∈ tables_1 := List.mem_of_getElem? (i := 168) rfl
theorem wd_169 : (Jvm.Cond.instanceMethod ({ cls := "java/lang/Exception", name := "<init>", desc := "(Ljava/lang/String;)V" } : Jvm.MethodName)) ∈ tables_1 := List.mem_of_getElem? (i := 169) rfl
theorem wd_171 : (Jvm.Cond.initialized "java/lang/Exception") ∈ tables_1 := List.mem_of_getElem? (i := 171) rfl
theorem wd_172 : (Jvm.Cond.code ({ cls := "java/lang/Exception", name := "<init>", desc := "(Ljava/lang/String;)V" } : Jvm.MethodName) jdk_59_method_2_code (2 : Nat) (Option.none : Option Jvm.ClassFile.FieldType)) ∈ tables_1 := List.mem_of_getElem? (i := 172) rfl
theorem wd_173 : (Jvm.Cond.methodLink "java/lang/Exception" (7 : Nat) ({ cls := "java/lang/Throwable", name := "<init>", desc := "(Ljava/lang/String;)V" } : Jvm.MethodName)) ∈ tables_1 := List.mem_of_getElem? (i := 173) rfl
theorem wd_174 : (Jvm.Cond.instanceMethod ({ cls := "java/lang/Throwable", name := "<init>", desc := "(Ljava/lang/String;)V" } : Jvm.MethodName)) ∈ tables_1 := List.mem_of_getElem? (i := 174) rfl
theorem wd_177 : (Jvm.Cond.initialized "java/lang/Throwable") ∈ tables_1 := List.mem_of_getElem? (i := 177) rfl
theorem wd_178 : (Jvm.Cond.code ({ cls := "java/lang/Throwable", name := "<init>", desc := "(Ljava/lang/String;)V" } : Jvm.MethodName) jdk_78_method_2_code (2 : Nat) (Option.none : Option Jvm.ClassFile.FieldType)) ∈ tables_1 := List.mem_of_getElem? (i := 178) rfl
theorem wd_179 : (Jvm.Cond.methodLink "java/lang/Throwable" (1 : Nat) ({ cls := "java/lang/Object", name := "<init>", desc := "()V" } : Jvm.MethodName)) ∈ tables_1 := List.mem_of_getElem? (i := 179) rfl
theorem wd_180 : (Jvm.Cond.fieldLink "java/lang/Throwable" (7 : Nat) "java/lang/Throwable" "cause" "Ljava/lang/Throwable;") ∈ tables_1 := List.mem_of_getElem? (i := 180) rfl
theorem wd_181 : (Jvm.Cond.lays "com/example/yusen/yusen/figures/TermFileException" "java/lang/Throwable" "cause" "Ljava/lang/Throwable;") ∈ tables_1 := List.mem_of_getElem? (i := 181) rfl
theorem wd_182 : (Jvm.Cond.fieldLink "java/lang/Throwable" (13 : Nat) "java/lang/Throwable" "UNASSIGNED_STACK" "[Ljava/lang/StackTraceElement;") ∈ tables_1 := List.mem_of_getElem? (i := 182) rfl
theorem wd_183 : (Jvm.Cond.fieldLink "java/lang/Throwable" (17 : Nat) "java/lang/Throwable" "stackTrace" "[Ljava/lang/StackTraceElement;") ∈ tables_1 := List.mem_of_getElem? (i := 183) rfl
theorem wd_184 : (Jvm.Cond.lays "com/example/yusen/yusen/figures/TermFileException" "java/lang/Throwable" "stackTrace" "[Ljava/lang/StackTraceElement;") ∈ tables_1 := List.mem_of_getElem? (i := 184) rfl
theorem wd_185 : (Jvm.Cond.fieldLink "java/lang/Throwable" (20 : Nat) "java/lang/Throwable" "SUPPRESSED_SENTINEL" "Ljava/util/List;") ∈ tables_1 := List.mem_of_getElem? (i := 185) rfl
theorem wd_186 : (Jvm.Cond.fieldLink "java/lang/Throwable" (24 : Nat) "java/lang/Throwable" "suppressedExceptions" "Ljava/util/List;") ∈ tables_1 := List.mem_of_getElem? (i := 186) rfl
theorem wd_187 : (Jvm.Cond.lays "com/example/yusen/yusen/figures/TermFileException" "java/lang/Throwable" "suppressedExceptions" "Ljava/util/List;") ∈ tables_1 := List.mem_of_getElem? (i := 187) rfl
theorem wd_211 : (Jvm.Cond.lays "com/example/yusen/yusen/figures/TermFileException" "java/lang/Throwable" "detailMessage" "Ljava/lang/String;") ∈ tables_1 := List.mem_of_getElem? (i := 211) rfl
theorem wd_212 : (Jvm.Cond.lays "com/example/yusen/yusen/figures/TermFileException" "java/lang/Throwable" "backtrace" "Ljava/lang/Object;") ∈ tables_1 := List.mem_of_getElem? (i := 212) rfl
theorem wd_213 : (Jvm.Cond.lays "com/example/yusen/yusen/figures/TermFileException" "java/lang/Throwable" "depth" "I") ∈ tables_1 := List.mem_of_getElem? (i := 213) rfl
theorem wd_215 : (Jvm.Cond.fieldLink "java/lang/Throwable" (31 : Nat) "java/lang/Throwable" "detailMessage" "Ljava/lang/String;") ∈ tables_1 := List.mem_of_getElem? (i := 215) rfl
theorem wd_216 : (Jvm.Cond.methodLink "com/example/yusen/yusen/figures/TermFileFieldProblemPinLaw" (35 : Nat) ({ cls := "com/example/yusen/yusen/figures/TermFileException", name := "getCause", desc := "()Ljava/lang/Throwable;" } : Jvm.MethodName)) ∈ tables_1 := List.mem_of_getElem? (i := 216) rfl
theorem wd_217 : (Jvm.Cond.sameMethod "com/example/yusen/yusen/figures/TermFileException" "java/lang/Throwable" "getCause" "()Ljava/lang/Throwable;") ∈ tables_1 := List.mem_of_getElem? (i := 217) rfl
theorem wd_218 : (Jvm.Cond.declares ({ cls := "java/lang/Throwable", name := "getCause", desc := "()Ljava/lang/Throwable;" } : Jvm.MethodName)) ∈ tables_1 := List.mem_of_getElem? (i := 218) rfl
theorem wd_219 : (Jvm.Cond.instanceMethod ({ cls := "java/lang/Throwable", name := "getCause", desc := "()Ljava/lang/Throwable;" } : Jvm.MethodName)) ∈ tables_1 := List.mem_of_getElem? (i := 219) rfl
theorem wd_220 : (Jvm.Cond.selects "com/example/yusen/yusen/figures/TermFileException" ({ cls := "com/example/yusen/yusen/figures/TermFileException", name := "getCause", desc := "()Ljava/lang/Throwable;" } : Jvm.MethodName) ({ cls := "java/lang/Throwable", name := "getCause", desc := "()Ljava/lang/Throwable;" } : Jvm.MethodName)) ∈ tables_1 := List.mem_of_getElem? (i := 220) rfl
theorem wd_221 : (Jvm.Cond.codeSync ({ cls := "java/lang/Throwable", name := "getCause", desc := "()Ljava/lang/Throwable;" } : Jvm.MethodName) jdk_78_method_8_code (1 : Nat) (Option.some (Jvm.ClassFile.FieldType.object "java/lang/Throwable"))) ∈ tables_1 := List.mem_of_getElem? (i := 221) rfl
theorem wd_222 : (Jvm.Cond.methodLink "com/example/yusen/yusen/figures/TermFileFieldProblemPinLaw" (41 : Nat) ({ cls := "com/example/yusen/yusen/figures/TermFileException", name := "getMessage", desc := "()Ljava/lang/String;" } : Jvm.MethodName)) ∈ tables_1 := List.mem_of_getElem? (i := 222) rfl
theorem wd_223 : (Jvm.Cond.sameMethod "com/example/yusen/yusen/figures/TermFileException" "java/lang/Throwable" "getMessage" "()Ljava/lang/String;") ∈ tables_1 := List.mem_of_getElem? (i := 223) rfl
theorem wd_224 : (Jvm.Cond.declares ({ cls := "java/lang/Throwable", name := "getMessage", desc := "()Ljava/lang/String;" } : Jvm.MethodName)) ∈ tables_1 := List.mem_of_getElem? (i := 224) rfl
theorem wd_225 : (Jvm.Cond.instanceMethod ({ cls := "java/lang/Throwable", name := "getMessage", desc := "()Ljava/lang/String;" } : Jvm.MethodName)) ∈ tables_1 := List.mem_of_getElem? (i := 225) rfl
theorem wd_226 : (Jvm.Cond.selects "com/example/yusen/yusen/figures/TermFileException" ({ cls := "com/example/yusen/yusen/figures/TermFileException", name := "getMessage", desc := "()Ljava/lang/String;" } : Jvm.MethodName) ({ cls := "java/lang/Throwable", name := "getMessage", desc := "()Ljava/lang/String;" } : Jvm.MethodName)) ∈ tables_1 := List.mem_of_getElem? (i := 226) rfl
theorem wd_227 : (Jvm.Cond.code ({ cls := "java/lang/Throwable", name := "getMessage", desc := "()Ljava/lang/String;" } : Jvm.MethodName) jdk_78_method_6_code (1 : Nat) (Option.some (Jvm.ClassFile.FieldType.object "java/lang/String"))) ∈ tables_1 := List.mem_of_getElem? (i := 227) rfl
theorem wd_228 : (Jvm.Cond.methodLink "com/example/yusen/yusen/figures/TermFileFieldProblemPinLaw" (45 : Nat) ({ cls := "com/example/yusen/yusen/figures/TermFileFieldProblemPinLaw", name := "put", desc := "([CII)I" } : Jvm.MethodName)) ∈ tables_1 := List.mem_of_getElem? (i := 228) rfl
theorem wd_229 : (Jvm.Cond.static ({ cls := "com/example/yusen/yusen/figures/TermFileFieldProblemPinLaw", name := "put", desc := "([CII)I" } : Jvm.MethodName)) ∈ tables_1 := List.mem_of_getElem? (i := 229) rfl
theorem wd_230 : (Jvm.Cond.code ({ cls := "com/example/yusen/yusen/figures/TermFileFieldProblemPinLaw", name := "put", desc := "([CII)I" } : Jvm.MethodName) method_4_code (5 : Nat) (Option.some Jvm.ClassFile.FieldType.int)) ∈ tables_1 := List.mem_of_getElem? (i := 230) rfl
theorem wd_231 : (Jvm.Cond.methodLink "com/example/yusen/yusen/figures/TermFileFieldProblemPinLaw" (49 : Nat) ({ cls := "java/lang/String", name := "length", desc := "()I" } : Jvm.MethodName)) ∈ tables_1 := List.mem_of_getElem? (i := 231) rfl
theorem wd_232 : (Jvm.Cond.methodLink "com/example/yusen/yusen/figures/TermFileFieldProblemPinLaw" (53 : Nat) ({ cls := "com/example/yusen/yusen/figures/TermFileFieldProblemPinLaw", name := "same", desc := "(Ljava/lang/String;[CII)Z" } : Jvm.MethodName)) ∈ tables_1 := List.mem_of_getElem? (i := 232) rfl
theorem wd_233 : (Jvm.Cond.static ({ cls := "com/example/yusen/yusen/figures/TermFileFieldProblemPinLaw", name := "same", desc := "(Ljava/lang/String;[CII)Z" } : Jvm.MethodName)) ∈ tables_1 := List.mem_of_getElem? (i := 233) rfl
theorem wd_234 : (Jvm.Cond.code ({ cls := "com/example/yusen/yusen/figures/TermFileFieldProblemPinLaw", name := "same", desc := "(Ljava/lang/String;[CII)Z" } : Jvm.MethodName) method_5_code (4 : Nat) (Option.some Jvm.ClassFile.FieldType.boolean)) ∈ tables_1 := List.mem_of_getElem? (i := 234) rfl
theorem wd_235 : (Jvm.Cond.methodLink "com/example/yusen/yusen/figures/TermFileFieldProblemPinLaw" (18 : Nat) ({ cls := "java/lang/String", name := "charAt", desc := "(I)C" } : Jvm.MethodName)) ∈ tables_1 := List.mem_of_getElem? (i := 235) rfl
theorem wd_236 : (Jvm.Cond.declares ({ cls := "java/lang/String", name := "charAt", desc := "(I)C" } : Jvm.MethodName)) ∈ tables_1 := List.mem_of_getElem? (i := 236) rfl
theorem wd_237 : (Jvm.Cond.instanceMethod ({ cls := "java/lang/String", name := "charAt", desc := "(I)C" } : Jvm.MethodName)) ∈ tables_1 := List.mem_of_getElem? (i := 237) rfl
theorem wd_238 : (Jvm.Cond.selects "java/lang/String" ({ cls := "java/lang/String", name := "charAt", desc := "(I)C" } : Jvm.MethodName) ({ cls := "java/lang/String", name := "charAt", desc := "(I)C" } : Jvm.MethodName)) ∈ tables_1 := List.mem_of_getElem? (i := 238) rfl
theorem pd0 : parseMethodDescriptor "()B" = some ⟨[], some .byte⟩ := by decide +kernel
theorem pd1 : parseMethodDescriptor "(Ljava/lang/String;)V" = some ⟨[(.object "java/lang/String")], none⟩ := by decide +kernel
theorem pd2 : parseMethodDescriptor "([BIB)V" = some ⟨[(.array .byte), .int, .byte], none⟩ := by decide +kernel
theorem pd3 : parseMethodDescriptor "(I)V" = some ⟨[.int], none⟩ := by decide +kernel
theorem pd4 : parseMethodDescriptor "(ILjava/lang/String;)V" = some ⟨[.int, (.object "java/lang/String")], none⟩ := by decide +kernel
theorem pd5 : parseMethodDescriptor "(Ljava/lang/String;)Ljava/lang/AbstractStringBuilder;" = some ⟨[(.object "java/lang/String")], some (.object "java/lang/AbstractStringBuilder")⟩ := by decide +kernel
theorem pd6 : parseMethodDescriptor "()I" = some ⟨[], some .int⟩ := by decide +kernel
theorem pd7 : parseMethodDescriptor "(II)V" = some ⟨[.int, .int], none⟩ := by decide +kernel
theorem pd8 : parseMethodDescriptor "(II)I" = some ⟨[.int, .int], some .int⟩ := by decide +kernel
theorem pd9 : parseMethodDescriptor "([BII)[B" = some ⟨[(.array .byte), .int, .int], some (.array .byte)⟩ := by decide +kernel
theorem pd10 : parseMethodDescriptor "()[B" = some ⟨[], some (.array .byte)⟩ := by decide +kernel
theorem pd11 : parseMethodDescriptor "()Z" = some ⟨[], some .boolean⟩ := by decide +kernel
theorem pd12 : parseMethodDescriptor "(Ljava/lang/AbstractStringBuilder;Ljava/lang/Void;)V" = some ⟨[(.object "java/lang/AbstractStringBuilder"), (.object "java/lang/Void")], none⟩ := by decide +kernel
theorem pd13 : parseMethodDescriptor "(Ljava/lang/StringBuilder;)V" = some ⟨[(.object "java/lang/StringBuilder")], none⟩ := by decide +kernel
theorem pd14 : parseMethodDescriptor "([CIILjava/lang/Void;)V" = some ⟨[(.array .char), .int, .int, (.object "java/lang/Void")], none⟩ := by decide +kernel
theorem pd15 : parseMethodDescriptor "(I)I" = some ⟨[.int], some .int⟩ := by decide +kernel
theorem pd16 : parseMethodDescriptor "([C)V" = some ⟨[(.array .char)], none⟩ := by decide +kernel
theorem pd17 : parseMethodDescriptor "()V" = some ⟨[], none⟩ := by decide +kernel
theorem pd18 : parseMethodDescriptor "(Ljava/lang/String;)Ljava/lang/StringBuilder;" = some ⟨[(.object "java/lang/String")], some (.object "java/lang/StringBuilder")⟩ := by decide +kernel
theorem pd19 : parseMethodDescriptor "()Ljava/lang/String;" = some ⟨[], some (.object "java/lang/String")⟩ := by decide +kernel
theorem pd20 : parseMethodDescriptor "(Ljava/lang/String;Ljava/lang/String;Ljava/lang/String;)V" = some ⟨[(.object "java/lang/String"), (.object "java/lang/String"), (.object "java/lang/String")], none⟩ := by decide +kernel
theorem pd21 : parseMethodDescriptor "(I)Ljava/lang/String;" = some ⟨[.int], some (.object "java/lang/String")⟩ := by decide +kernel
theorem pd22 : parseMethodDescriptor "(Ljava/lang/String;Ljava/lang/String;)V" = some ⟨[(.object "java/lang/String"), (.object "java/lang/String")], none⟩ := by decide +kernel
theorem pd23 : parseMethodDescriptor "(Ljava/lang/String;)Lcom/example/yusen/yusen/figures/TermFileException;" = some ⟨[(.object "java/lang/String")], some (.object "com/example/yusen/yusen/figures/TermFileException")⟩ := by decide +kernel
theorem pd24 : parseMethodDescriptor "([CII)I" = some ⟨[(.array .char), .int, .int], some .int⟩ := by decide +kernel
theorem pd25 : parseMethodDescriptor "(Ljava/lang/String;[CII)Z" = some ⟨[(.object "java/lang/String"), (.array .char), .int, .int], some .boolean⟩ := by decide +kernel
theorem pd26 : parseMethodDescriptor "(I)C" = some ⟨[.int], some .char⟩ := by decide +kernel
theorem pn0 : plainFor (⟨"java/lang/String", "coder", "()B"⟩ : MethodName) = true := by first | exact plainFor_of_name (by first | (simp [plainName, overriddenIn]; done) | decide +kernel) | decide +kernel
theorem pn1 : plainFor (⟨"java/lang/AbstractStringBuilder", "inflateIfNeededFor", "(Ljava/lang/String;)V"⟩ : MethodName) = true := by first | exact plainFor_of_name (by first | (simp [plainName, overriddenIn]; done) | decide +kernel) | decide +kernel
theorem pn2 : plainFor (⟨"java/lang/AbstractStringBuilder", "ensureCapacityInternal", "(I)V"⟩ : MethodName) = true := by first | exact plainFor_of_name (by first | (simp [plainName, overriddenIn]; done) | decide +kernel) | decide +kernel
theorem pn3 : plainFor (⟨"java/lang/String", "getBytes", "([BIB)V"⟩ : MethodName) = true := by first | exact plainFor_of_name (by first | (simp [plainName, overriddenIn]; done) | decide +kernel) | decide +kernel
theorem pn4 : plainFor (⟨"java/lang/AbstractStringBuilder", "putStringAt", "(ILjava/lang/String;)V"⟩ : MethodName) = true := by first | exact plainFor_of_name (by first | (simp [plainName, overriddenIn]; done) | decide +kernel) | decide +kernel
theorem pn5 : plainFor (⟨"java/lang/AbstractStringBuilder", "append", "(Ljava/lang/String;)Ljava/lang/AbstractStringBuilder;"⟩ : MethodName) = true := by first | exact plainFor_of_name (by first | (simp [plainName, overriddenIn]; done) | decide +kernel) | decide +kernel
theorem pn6 : plainFor (⟨"java/lang/StringBuilder", "append", "(Ljava/lang/String;)Ljava/lang/StringBuilder;"⟩ : MethodName) = true := by first | exact plainFor_of_name (by first | (simp [plainName, overriddenIn]; done) | decide +kernel) | decide +kernel
theorem pn7 : plainFor (⟨"java/lang/AbstractStringBuilder", "<init>", "(I)V"⟩ : MethodName) = true := by first | exact plainFor_of_name (by first | (simp [plainName, overriddenIn]; done) | decide +kernel) | decide +kernel
theorem pn8 : plainFor (⟨"java/lang/StringBuilder", "<init>", "()V"⟩ : MethodName) = true := by first | exact plainFor_of_name (by first | (simp [plainName, overriddenIn]; done) | decide +kernel) | decide +kernel
theorem pn9 : plainFor (⟨"java/lang/AbstractStringBuilder", "getValue", "()[B"⟩ : MethodName) = true := by first | exact plainFor_of_name (by first | (simp [plainName, overriddenIn]; done) | decide +kernel) | decide +kernel
theorem pn10 : plainFor (⟨"java/lang/AbstractStringBuilder", "length", "()I"⟩ : MethodName) = true := by first | exact plainFor_of_name (by first | (simp [plainName, overriddenIn]; done) | decide +kernel) | decide +kernel
theorem pn11 : plainFor (⟨"java/lang/StringBuilder", "length", "()I"⟩ : MethodName) = true := by first | exact plainFor_of_name (by first | (simp [plainName, overriddenIn]; done) | decide +kernel) | decide +kernel
theorem pn12 : plainFor (⟨"java/lang/AbstractStringBuilder", "isLatin1", "()Z"⟩ : MethodName) = true := by first | exact plainFor_of_name (by first | (simp [plainName, overriddenIn]; done) | decide +kernel) | decide +kernel
theorem pn13 : plainFor (⟨"java/lang/Math", "min", "(II)I"⟩ : MethodName) = true := by first | exact plainFor_of_name (by first | (simp [plainName, overriddenIn]; done) | decide +kernel) | decide +kernel
theorem pn14 : plainFor (⟨"java/util/Arrays", "checkLength", "(II)V"⟩ : MethodName) = true := by first | exact plainFor_of_name (by first | (simp [plainName, overriddenIn]; done) | decide +kernel) | decide +kernel
theorem pn15 : plainFor (⟨"java/util/Arrays", "copyOfRangeByte", "([BII)[B"⟩ : MethodName) = true := by first | exact plainFor_of_name (by first | (simp [plainName, overriddenIn]; done) | decide +kernel) | decide +kernel
theorem pn16 : plainFor (⟨"java/util/Arrays", "copyOfRange", "([BII)[B"⟩ : MethodName) = true := by first | exact plainFor_of_name (by first | (simp [plainName, overriddenIn]; done) | decide +kernel) | decide +kernel
theorem pn17 : plainFor (⟨"java/lang/String", "<init>", "(Ljava/lang/AbstractStringBuilder;Ljava/lang/Void;)V"⟩ : MethodName) = true := by first | exact plainFor_of_name (by first | (simp [plainName, overriddenIn]; done) | decide +kernel) | decide +kernel
theorem pn18 : plainFor (⟨"java/lang/String", "<init>", "(Ljava/lang/StringBuilder;)V"⟩ : MethodName) = true := by first | exact plainFor_of_name (by first | (simp [plainName, overriddenIn]; done) | decide +kernel) | decide +kernel
theorem pn19 : plainFor (⟨"java/lang/StringBuilder", "toString", "()Ljava/lang/String;"⟩ : MethodName) = true := by first | exact plainFor_of_name (by first | (simp [plainName, overriddenIn]; done) | decide +kernel) | decide +kernel
theorem pn20 : plainFor (⟨"java/lang/String", "<init>", "([CIILjava/lang/Void;)V"⟩ : MethodName) = true := by first | exact plainFor_of_name (by first | (simp [plainName, overriddenIn]; done) | decide +kernel) | decide +kernel
theorem pn21 : plainFor (⟨"java/lang/String", "<init>", "([C)V"⟩ : MethodName) = true := by first | exact plainFor_of_name (by first | (simp [plainName, overriddenIn]; done) | decide +kernel) | decide +kernel
theorem pn22 : plainFor (⟨"com/example/yusen/yusen/figures/TermFileFieldProblemPinLaw", "len", "(I)I"⟩ : MethodName) = true := by first | exact plainFor_of_name (by first | (simp [plainName, overriddenIn]; done) | decide +kernel) | decide +kernel
theorem pn23 : plainFor (⟨"com/example/yusen/yusen/figures/TermFileFieldProblemPinLaw", "str", "(I)Ljava/lang/String;"⟩ : MethodName) = true := by first | exact plainFor_of_name (by first | (simp [plainName, overriddenIn]; done) | decide +kernel) | decide +kernel
theorem pn24 : plainFor (⟨"com/example/yusen/yusen/figures/TermFileFieldProblemPinLaw", "put", "([CII)I"⟩ : MethodName) = true := by first | exact plainFor_of_name (by first | (simp [plainName, overriddenIn]; done) | decide +kernel) | decide +kernel
theorem pn25 : plainFor (⟨"com/example/yusen/yusen/figures/TermFileFieldProblemPinLaw", "same", "(Ljava/lang/String;[CII)Z"⟩ : MethodName) = true := by first | exact plainFor_of_name (by first | (simp [plainName, overriddenIn]; done) | decide +kernel) | decide +kernel
theorem pn26 : plainFor (⟨"com/example/yusen/yusen/figures/TermFileField", "<init>", "(Ljava/lang/String;Ljava/lang/String;)V"⟩ : MethodName) = true := by first | exact plainFor_of_name (by first | (simp [plainName, overriddenIn]; done) | decide +kernel) | decide +kernel
theorem pn27 : plainFor (⟨"java/lang/Throwable", "<init>", "(Ljava/lang/String;)V"⟩ : MethodName) = true := by first | exact plainFor_of_name (by first | (simp [plainName, overriddenIn]; done) | decide +kernel) | decide +kernel
theorem pn28 : plainFor (⟨"java/lang/Exception", "<init>", "(Ljava/lang/String;)V"⟩ : MethodName) = true := by first | exact plainFor_of_name (by first | (simp [plainName, overriddenIn]; done) | decide +kernel) | decide +kernel
theorem pn29 : plainFor (⟨"com/example/yusen/yusen/figures/InputException", "<init>", "(Ljava/lang/String;)V"⟩ : MethodName) = true := by first | exact plainFor_of_name (by first | (simp [plainName, overriddenIn]; done) | decide +kernel) | decide +kernel
theorem pn30 : plainFor (⟨"com/example/yusen/yusen/figures/TermFileException", "<init>", "(Ljava/lang/String;Ljava/lang/String;Ljava/lang/String;)V"⟩ : MethodName) = true := by first | exact plainFor_of_name (by first | (simp [plainName, overriddenIn]; done) | decide +kernel) | decide +kernel
theorem pn31 : plainFor (⟨"com/example/yusen/yusen/figures/TermFileField", "problem", "(Ljava/lang/String;)Lcom/example/yusen/yusen/figures/TermFileException;"⟩ : MethodName) = true := by first | exact plainFor_of_name (by first | (simp [plainName, overriddenIn]; done) | decide +kernel) | decide +kernel
theorem pn32 : plainFor (⟨"java/lang/Throwable", "getMessage", "()Ljava/lang/String;"⟩ : MethodName) = true := by first | exact plainFor_of_name (by first | (simp [plainName, overriddenIn]; done) | decide +kernel) | decide +kernel
theorem pn33 : plainFor (⟨"com/example/yusen/yusen/figures/TermFileFieldProblemPinLaw", "law", "(III)Z"⟩ : MethodName) = true := by first | exact plainFor_of_name (by first | (simp [plainName, overriddenIn]; done) | decide +kernel) | decide +kernel
theorem i0_0 : Jvm.Own.Ins jdk_42_method_152_code 0 (.getstatic 38) 3 3 := ⟨by decide +kernel, rfl⟩
theorem i0_3 : Jvm.Own.Ins jdk_42_method_152_code 3 (.ifCond .eq 10) 3 6 := ⟨by decide +kernel, rfl⟩
theorem i0_6 : Jvm.Own.Ins jdk_42_method_152_code 6 (.aload_n 0) 1 7 := ⟨by decide +kernel, rfl⟩
theorem i0_7 : Jvm.Own.Ins jdk_42_method_152_code 7 (.getfield 15) 3 10 := ⟨by decide +kernel, rfl⟩
theorem i0_10 : Jvm.Own.Ins jdk_42_method_152_code 10 (.goto 4) 3 13 := ⟨by decide +kernel, rfl⟩
theorem i0_14 : Jvm.Own.Ins jdk_42_method_152_code 14 (.ireturn) 1 15 := ⟨by decide +kernel, rfl⟩
theorem i1_0 : Jvm.Own.Ins jdk_68_method_71_code 0 (.getstatic 18) 3 3 := ⟨by decide +kernel, rfl⟩
theorem i1_3 : Jvm.Own.Ins jdk_68_method_71_code 3 (.ifCond .eq 18) 3 6 := ⟨by decide +kernel, rfl⟩
theorem i1_6 : Jvm.Own.Ins jdk_68_method_71_code 6 (.aload_n 0) 1 7 := ⟨by decide +kernel, rfl⟩
theorem i1_7 : Jvm.Own.Ins jdk_68_method_71_code 7 (.getfield 22) 3 10 := ⟨by decide +kernel, rfl⟩
theorem i1_10 : Jvm.Own.Ins jdk_68_method_71_code 10 (.aload_n 1) 1 11 := ⟨by decide +kernel, rfl⟩
theorem i1_11 : Jvm.Own.Ins jdk_68_method_71_code 11 (.invokevirtual 40) 3 14 := ⟨by decide +kernel, rfl⟩
theorem i1_14 : Jvm.Own.Ins jdk_68_method_71_code 14 (.if_icmp .eq 7) 3 17 := ⟨by decide +kernel, rfl⟩
theorem i1_21 : Jvm.Own.Ins jdk_68_method_71_code 21 (.return_) 1 22 := ⟨by decide +kernel, rfl⟩
theorem i2_0 : Jvm.Own.Ins jdk_68_method_9_code 0 (.aload_n 0) 1 1 := ⟨by decide +kernel, rfl⟩
theorem i2_1 : Jvm.Own.Ins jdk_68_method_9_code 1 (.getfield 15) 3 4 := ⟨by decide +kernel, rfl⟩
theorem i2_4 : Jvm.Own.Ins jdk_68_method_9_code 4 (.arraylength) 1 5 := ⟨by decide +kernel, rfl⟩
theorem i2_5 : Jvm.Own.Ins jdk_68_method_9_code 5 (.aload_n 0) 1 6 := ⟨by decide +kernel, rfl⟩
theorem i2_6 : Jvm.Own.Ins jdk_68_method_9_code 6 (.getfield 22) 3 9 := ⟨by decide +kernel, rfl⟩
theorem i2_9 : Jvm.Own.Ins jdk_68_method_9_code 9 (.ishr) 1 10 := ⟨by decide +kernel, rfl⟩
theorem i2_10 : Jvm.Own.Ins jdk_68_method_9_code 10 (.istore_n 2) 1 11 := ⟨by decide +kernel, rfl⟩
theorem i2_11 : Jvm.Own.Ins jdk_68_method_9_code 11 (.iload_n 1) 1 12 := ⟨by decide +kernel, rfl⟩
theorem i2_12 : Jvm.Own.Ins jdk_68_method_9_code 12 (.iload_n 2) 1 13 := ⟨by decide +kernel, rfl⟩
theorem i2_13 : Jvm.Own.Ins jdk_68_method_9_code 13 (.isub) 1 14 := ⟨by decide +kernel, rfl⟩
theorem i2_14 : Jvm.Own.Ins jdk_68_method_9_code 14 (.ifCond .le 24) 3 17 := ⟨by decide +kernel, rfl⟩
theorem i2_38 : Jvm.Own.Ins jdk_68_method_9_code 38 (.return_) 1 39 := ⟨by decide +kernel, rfl⟩
theorem i3_0 : Jvm.Own.Ins jdk_42_method_147_code 0 (.aload_n 0) 1 1 := ⟨by decide +kernel, rfl⟩
theorem i3_1 : Jvm.Own.Ins jdk_42_method_147_code 1 (.invokevirtual 335) 3 4 := ⟨by decide +kernel, rfl⟩
theorem i3_4 : Jvm.Own.Ins jdk_42_method_147_code 4 (.iload_n 3) 1 5 := ⟨by decide +kernel, rfl⟩
theorem i3_5 : Jvm.Own.Ins jdk_42_method_147_code 5 (.if_icmp .ne 23) 3 8 := ⟨by decide +kernel, rfl⟩
theorem i3_8 : Jvm.Own.Ins jdk_42_method_147_code 8 (.aload_n 0) 1 9 := ⟨by decide +kernel, rfl⟩
theorem i3_9 : Jvm.Own.Ins jdk_42_method_147_code 9 (.getfield 9) 3 12 := ⟨by decide +kernel, rfl⟩
theorem i3_12 : Jvm.Own.Ins jdk_42_method_147_code 12 (.iconst 0) 1 13 := ⟨by decide +kernel, rfl⟩
theorem i3_13 : Jvm.Own.Ins jdk_42_method_147_code 13 (.aload_n 1) 1 14 := ⟨by decide +kernel, rfl⟩
theorem i3_14 : Jvm.Own.Ins jdk_42_method_147_code 14 (.iload_n 2) 1 15 := ⟨by decide +kernel, rfl⟩
theorem i3_15 : Jvm.Own.Ins jdk_42_method_147_code 15 (.iload_n 3) 1 16 := ⟨by decide +kernel, rfl⟩
theorem i3_16 : Jvm.Own.Ins jdk_42_method_147_code 16 (.ishl) 1 17 := ⟨by decide +kernel, rfl⟩
theorem i3_17 : Jvm.Own.Ins jdk_42_method_147_code 17 (.aload_n 0) 1 18 := ⟨by decide +kernel, rfl⟩
theorem i3_18 : Jvm.Own.Ins jdk_42_method_147_code 18 (.getfield 9) 3 21 := ⟨by decide +kernel, rfl⟩
theorem i3_21 : Jvm.Own.Ins jdk_42_method_147_code 21 (.arraylength) 1 22 := ⟨by decide +kernel, rfl⟩
theorem i3_22 : Jvm.Own.Ins jdk_42_method_147_code 22 (.invokestatic 212) 3 25 := ⟨by decide +kernel, rfl⟩
theorem i3_25 : Jvm.Own.Ins jdk_42_method_147_code 25 (.goto 18) 3 28 := ⟨by decide +kernel, rfl⟩
theorem i3_43 : Jvm.Own.Ins jdk_42_method_147_code 43 (.return_) 1 44 := ⟨by decide +kernel, rfl⟩
theorem i4_0 : Jvm.Own.Ins jdk_68_method_73_code 0 (.aload_n 0) 1 1 := ⟨by decide +kernel, rfl⟩
theorem i4_1 : Jvm.Own.Ins jdk_68_method_73_code 1 (.aload_n 2) 1 2 := ⟨by decide +kernel, rfl⟩
theorem i4_2 : Jvm.Own.Ins jdk_68_method_73_code 2 (.invokevirtual 397) 3 5 := ⟨by decide +kernel, rfl⟩
theorem i4_5 : Jvm.Own.Ins jdk_68_method_73_code 5 (.aload_n 2) 1 6 := ⟨by decide +kernel, rfl⟩
theorem i4_6 : Jvm.Own.Ins jdk_68_method_73_code 6 (.aload_n 0) 1 7 := ⟨by decide +kernel, rfl⟩
theorem i4_7 : Jvm.Own.Ins jdk_68_method_73_code 7 (.getfield 15) 3 10 := ⟨by decide +kernel, rfl⟩
theorem i4_10 : Jvm.Own.Ins jdk_68_method_73_code 10 (.iload_n 1) 1 11 := ⟨by decide +kernel, rfl⟩
theorem i4_11 : Jvm.Own.Ins jdk_68_method_73_code 11 (.aload_n 0) 1 12 := ⟨by decide +kernel, rfl⟩
theorem i4_12 : Jvm.Own.Ins jdk_68_method_73_code 12 (.getfield 22) 3 15 := ⟨by decide +kernel, rfl⟩
theorem i4_15 : Jvm.Own.Ins jdk_68_method_73_code 15 (.invokevirtual 399) 3 18 := ⟨by decide +kernel, rfl⟩
theorem i4_18 : Jvm.Own.Ins jdk_68_method_73_code 18 (.return_) 1 19 := ⟨by decide +kernel, rfl⟩
theorem i5_0 : Jvm.Own.Ins jdk_68_method_22_code 0 (.aload_n 1) 1 1 := ⟨by decide +kernel, rfl⟩
theorem i5_1 : Jvm.Own.Ins jdk_68_method_22_code 1 (.ifnonnull 8) 3 4 := ⟨by decide +kernel, rfl⟩
theorem i5_9 : Jvm.Own.Ins jdk_68_method_22_code 9 (.aload_n 1) 1 10 := ⟨by decide +kernel, rfl⟩
theorem i5_10 : Jvm.Own.Ins jdk_68_method_22_code 10 (.invokevirtual 32) 3 13 := ⟨by decide +kernel, rfl⟩
theorem i5_13 : Jvm.Own.Ins jdk_68_method_22_code 13 (.istore_n 2) 1 14 := ⟨by decide +kernel, rfl⟩
theorem i5_14 : Jvm.Own.Ins jdk_68_method_22_code 14 (.aload_n 0) 1 15 := ⟨by decide +kernel, rfl⟩
theorem i5_15 : Jvm.Own.Ins jdk_68_method_22_code 15 (.aload_n 0) 1 16 := ⟨by decide +kernel, rfl⟩
theorem i5_16 : Jvm.Own.Ins jdk_68_method_22_code 16 (.getfield 79) 3 19 := ⟨by decide +kernel, rfl⟩
theorem i5_19 : Jvm.Own.Ins jdk_68_method_22_code 19 (.iload_n 2) 1 20 := ⟨by decide +kernel, rfl⟩
theorem i5_20 : Jvm.Own.Ins jdk_68_method_22_code 20 (.iadd) 1 21 := ⟨by decide +kernel, rfl⟩
theorem i5_21 : Jvm.Own.Ins jdk_68_method_22_code 21 (.invokevirtual 100) 3 24 := ⟨by decide +kernel, rfl⟩
theorem i5_24 : Jvm.Own.Ins jdk_68_method_22_code 24 (.aload_n 0) 1 25 := ⟨by decide +kernel, rfl⟩
theorem i5_25 : Jvm.Own.Ins jdk_68_method_22_code 25 (.aload_n 0) 1 26 := ⟨by decide +kernel, rfl⟩
theorem i5_26 : Jvm.Own.Ins jdk_68_method_22_code 26 (.getfield 79) 3 29 := ⟨by decide +kernel, rfl⟩
theorem i5_29 : Jvm.Own.Ins jdk_68_method_22_code 29 (.aload_n 1) 1 30 := ⟨by decide +kernel, rfl⟩
theorem i5_30 : Jvm.Own.Ins jdk_68_method_22_code 30 (.invokevirtual 208) 3 33 := ⟨by decide +kernel, rfl⟩
theorem i5_33 : Jvm.Own.Ins jdk_68_method_22_code 33 (.aload_n 0) 1 34 := ⟨by decide +kernel, rfl⟩
theorem i5_34 : Jvm.Own.Ins jdk_68_method_22_code 34 (.dup) 1 35 := ⟨by decide +kernel, rfl⟩
theorem i5_35 : Jvm.Own.Ins jdk_68_method_22_code 35 (.getfield 79) 3 38 := ⟨by decide +kernel, rfl⟩
theorem i5_38 : Jvm.Own.Ins jdk_68_method_22_code 38 (.iload_n 2) 1 39 := ⟨by decide +kernel, rfl⟩
theorem i5_39 : Jvm.Own.Ins jdk_68_method_22_code 39 (.iadd) 1 40 := ⟨by decide +kernel, rfl⟩
theorem i5_40 : Jvm.Own.Ins jdk_68_method_22_code 40 (.putfield 79) 3 43 := ⟨by decide +kernel, rfl⟩
theorem i5_43 : Jvm.Own.Ins jdk_68_method_22_code 43 (.aload_n 0) 1 44 := ⟨by decide +kernel, rfl⟩
theorem i5_44 : Jvm.Own.Ins jdk_68_method_22_code 44 (.areturn) 1 45 := ⟨by decide +kernel, rfl⟩
theorem i6_0 : Jvm.Own.Ins jdk_67_method_7_code 0 (.aload_n 0) 1 1 := ⟨by decide +kernel, rfl⟩
theorem i6_1 : Jvm.Own.Ins jdk_67_method_7_code 1 (.aload_n 1) 1 2 := ⟨by decide +kernel, rfl⟩
theorem i6_2 : Jvm.Own.Ins jdk_67_method_7_code 2 (.invokespecial 29) 3 5 := ⟨by decide +kernel, rfl⟩
theorem i6_5 : Jvm.Own.Ins jdk_67_method_7_code 5 (.pop) 1 6 := ⟨by decide +kernel, rfl⟩
theorem i6_6 : Jvm.Own.Ins jdk_67_method_7_code 6 (.aload_n 0) 1 7 := ⟨by decide +kernel, rfl⟩
theorem i6_7 : Jvm.Own.Ins jdk_67_method_7_code 7 (.areturn) 1 8 := ⟨by decide +kernel, rfl⟩
theorem i7_0 : Jvm.Own.Ins jdk_68_method_2_code 0 (.aload_n 0) 1 1 := ⟨by decide +kernel, rfl⟩
theorem i7_1 : Jvm.Own.Ins jdk_68_method_2_code 1 (.invokespecial 3) 3 4 := ⟨by decide +kernel, rfl⟩
theorem i7_4 : Jvm.Own.Ins jdk_68_method_2_code 4 (.getstatic 18) 3 7 := ⟨by decide +kernel, rfl⟩
theorem i7_7 : Jvm.Own.Ins jdk_68_method_2_code 7 (.ifCond .eq 18) 3 10 := ⟨by decide +kernel, rfl⟩
theorem i7_10 : Jvm.Own.Ins jdk_68_method_2_code 10 (.aload_n 0) 1 11 := ⟨by decide +kernel, rfl⟩
theorem i7_11 : Jvm.Own.Ins jdk_68_method_2_code 11 (.iload_n 1) 1 12 := ⟨by decide +kernel, rfl⟩
theorem i7_12 : Jvm.Own.Ins jdk_68_method_2_code 12 (.newarray .byte) 2 14 := ⟨by decide +kernel, rfl⟩
theorem i7_14 : Jvm.Own.Ins jdk_68_method_2_code 14 (.putfield 15) 3 17 := ⟨by decide +kernel, rfl⟩
theorem i7_17 : Jvm.Own.Ins jdk_68_method_2_code 17 (.aload_n 0) 1 18 := ⟨by decide +kernel, rfl⟩
theorem i7_18 : Jvm.Own.Ins jdk_68_method_2_code 18 (.iconst 0) 1 19 := ⟨by decide +kernel, rfl⟩
theorem i7_19 : Jvm.Own.Ins jdk_68_method_2_code 19 (.putfield 22) 3 22 := ⟨by decide +kernel, rfl⟩
theorem i7_22 : Jvm.Own.Ins jdk_68_method_2_code 22 (.goto 16) 3 25 := ⟨by decide +kernel, rfl⟩
theorem i7_38 : Jvm.Own.Ins jdk_68_method_2_code 38 (.return_) 1 39 := ⟨by decide +kernel, rfl⟩
theorem i8_0 : Jvm.Own.Ins jdk_67_method_1_code 0 (.aload_n 0) 1 1 := ⟨by decide +kernel, rfl⟩
theorem i8_1 : Jvm.Own.Ins jdk_67_method_1_code 1 (.bipush 16) 2 3 := ⟨by decide +kernel, rfl⟩
theorem i8_3 : Jvm.Own.Ins jdk_67_method_1_code 3 (.invokespecial 1) 3 6 := ⟨by decide +kernel, rfl⟩
theorem i8_6 : Jvm.Own.Ins jdk_67_method_1_code 6 (.return_) 1 7 := ⟨by decide +kernel, rfl⟩
theorem i9_0 : Jvm.Own.Ins jdk_68_method_64_code 0 (.aload_n 0) 1 1 := ⟨by decide +kernel, rfl⟩
theorem i9_1 : Jvm.Own.Ins jdk_68_method_64_code 1 (.getfield 15) 3 4 := ⟨by decide +kernel, rfl⟩
theorem i9_4 : Jvm.Own.Ins jdk_68_method_64_code 4 (.areturn) 1 5 := ⟨by decide +kernel, rfl⟩
theorem i10_0 : Jvm.Own.Ins jdk_68_method_6_code 0 (.aload_n 0) 1 1 := ⟨by decide +kernel, rfl⟩
theorem i10_1 : Jvm.Own.Ins jdk_68_method_6_code 1 (.getfield 79) 3 4 := ⟨by decide +kernel, rfl⟩
theorem i10_4 : Jvm.Own.Ins jdk_68_method_6_code 4 (.ireturn) 1 5 := ⟨by decide +kernel, rfl⟩
theorem i11_0 : Jvm.Own.Ins jdk_67_method_93_code 0 (.aload_n 0) 1 1 := ⟨by decide +kernel, rfl⟩
theorem i11_1 : Jvm.Own.Ins jdk_67_method_93_code 1 (.invokespecial 343) 3 4 := ⟨by decide +kernel, rfl⟩
theorem i11_4 : Jvm.Own.Ins jdk_67_method_93_code 4 (.ireturn) 1 5 := ⟨by decide +kernel, rfl⟩
theorem i12_0 : Jvm.Own.Ins jdk_68_method_68_code 0 (.getstatic 18) 3 3 := ⟨by decide +kernel, rfl⟩
theorem i12_3 : Jvm.Own.Ins jdk_68_method_68_code 3 (.ifCond .eq 14) 3 6 := ⟨by decide +kernel, rfl⟩
theorem i12_6 : Jvm.Own.Ins jdk_68_method_68_code 6 (.aload_n 0) 1 7 := ⟨by decide +kernel, rfl⟩
theorem i12_7 : Jvm.Own.Ins jdk_68_method_68_code 7 (.getfield 22) 3 10 := ⟨by decide +kernel, rfl⟩
theorem i12_10 : Jvm.Own.Ins jdk_68_method_68_code 10 (.ifCond .ne 7) 3 13 := ⟨by decide +kernel, rfl⟩
theorem i12_13 : Jvm.Own.Ins jdk_68_method_68_code 13 (.iconst 1) 1 14 := ⟨by decide +kernel, rfl⟩
theorem i12_14 : Jvm.Own.Ins jdk_68_method_68_code 14 (.goto 4) 3 17 := ⟨by decide +kernel, rfl⟩
theorem i12_18 : Jvm.Own.Ins jdk_68_method_68_code 18 (.ireturn) 1 19 := ⟨by decide +kernel, rfl⟩
theorem i13_0 : Jvm.Own.Ins jdk_29_method_69_code 0 (.iload_n 0) 1 1 := ⟨by decide +kernel, rfl⟩
theorem i13_1 : Jvm.Own.Ins jdk_29_method_69_code 1 (.iload_n 1) 1 2 := ⟨by decide +kernel, rfl⟩
theorem i13_2 : Jvm.Own.Ins jdk_29_method_69_code 2 (.if_icmp .gt 7) 3 5 := ⟨by decide +kernel, rfl⟩
theorem i13_5 : Jvm.Own.Ins jdk_29_method_69_code 5 (.iload_n 0) 1 6 := ⟨by decide +kernel, rfl⟩
theorem i13_6 : Jvm.Own.Ins jdk_29_method_69_code 6 (.goto 4) 3 9 := ⟨by decide +kernel, rfl⟩
theorem i13_9 : Jvm.Own.Ins jdk_29_method_69_code 9 (.iload_n 1) 1 10 := ⟨by decide +kernel, rfl⟩
theorem i13_10 : Jvm.Own.Ins jdk_29_method_69_code 10 (.ireturn) 1 11 := ⟨by decide +kernel, rfl⟩
theorem i14_0 : Jvm.Own.Ins jdk_65_method_131_code 0 (.iload_n 1) 1 1 := ⟨by decide +kernel, rfl⟩
theorem i14_1 : Jvm.Own.Ins jdk_65_method_131_code 1 (.iload_n 0) 1 2 := ⟨by decide +kernel, rfl⟩
theorem i14_2 : Jvm.Own.Ins jdk_65_method_131_code 2 (.if_icmp .ge 35) 3 5 := ⟨by decide +kernel, rfl⟩
theorem i14_37 : Jvm.Own.Ins jdk_65_method_131_code 37 (.return_) 1 38 := ⟨by decide +kernel, rfl⟩
theorem i15_0 : Jvm.Own.Ins jdk_65_method_133_code 0 (.iload_n 1) 1 1 := ⟨by decide +kernel, rfl⟩
theorem i15_1 : Jvm.Own.Ins jdk_65_method_133_code 1 (.iload_n 2) 1 2 := ⟨by decide +kernel, rfl⟩
theorem i15_2 : Jvm.Own.Ins jdk_65_method_133_code 2 (.invokestatic 343) 3 5 := ⟨by decide +kernel, rfl⟩
theorem i15_5 : Jvm.Own.Ins jdk_65_method_133_code 5 (.iload_n 2) 1 6 := ⟨by decide +kernel, rfl⟩
theorem i15_6 : Jvm.Own.Ins jdk_65_method_133_code 6 (.iload_n 1) 1 7 := ⟨by decide +kernel, rfl⟩
theorem i15_7 : Jvm.Own.Ins jdk_65_method_133_code 7 (.isub) 1 8 := ⟨by decide +kernel, rfl⟩
theorem i15_8 : Jvm.Own.Ins jdk_65_method_133_code 8 (.istore_n 3) 1 9 := ⟨by decide +kernel, rfl⟩
theorem i15_9 : Jvm.Own.Ins jdk_65_method_133_code 9 (.iload_n 3) 1 10 := ⟨by decide +kernel, rfl⟩
theorem i15_10 : Jvm.Own.Ins jdk_65_method_133_code 10 (.newarray .byte) 2 12 := ⟨by decide +kernel, rfl⟩
theorem i15_12 : Jvm.Own.Ins jdk_65_method_133_code 12 (.astore 4) 2 14 := ⟨by decide +kernel, rfl⟩
theorem i15_14 : Jvm.Own.Ins jdk_65_method_133_code 14 (.aload_n 0) 1 15 := ⟨by decide +kernel, rfl⟩
theorem i15_15 : Jvm.Own.Ins jdk_65_method_133_code 15 (.iload_n 1) 1 16 := ⟨by decide +kernel, rfl⟩
theorem i15_16 : Jvm.Own.Ins jdk_65_method_133_code 16 (.aload 4) 2 18 := ⟨by decide +kernel, rfl⟩
theorem i15_18 : Jvm.Own.Ins jdk_65_method_133_code 18 (.iconst 0) 1 19 := ⟨by decide +kernel, rfl⟩
theorem i15_19 : Jvm.Own.Ins jdk_65_method_133_code 19 (.aload_n 0) 1 20 := ⟨by decide +kernel, rfl⟩
theorem i15_20 : Jvm.Own.Ins jdk_65_method_133_code 20 (.arraylength) 1 21 := ⟨by decide +kernel, rfl⟩
theorem i15_21 : Jvm.Own.Ins jdk_65_method_133_code 21 (.iload_n 1) 1 22 := ⟨by decide +kernel, rfl⟩
theorem i15_22 : Jvm.Own.Ins jdk_65_method_133_code 22 (.isub) 1 23 := ⟨by decide +kernel, rfl⟩
theorem i15_23 : Jvm.Own.Ins jdk_65_method_133_code 23 (.iload_n 3) 1 24 := ⟨by decide +kernel, rfl⟩
theorem i15_24 : Jvm.Own.Ins jdk_65_method_133_code 24 (.invokestatic 304) 3 27 := ⟨by decide +kernel, rfl⟩
theorem i15_27 : Jvm.Own.Ins jdk_65_method_133_code 27 (.invokestatic 150) 3 30 := ⟨by decide +kernel, rfl⟩
theorem i15_30 : Jvm.Own.Ins jdk_65_method_133_code 30 (.aload 4) 2 32 := ⟨by decide +kernel, rfl⟩
theorem i15_32 : Jvm.Own.Ins jdk_65_method_133_code 32 (.areturn) 1 33 := ⟨by decide +kernel, rfl⟩
theorem i16_0 : Jvm.Own.Ins jdk_65_method_132_code 0 (.iload_n 1) 1 1 := ⟨by decide +kernel, rfl⟩
theorem i16_1 : Jvm.Own.Ins jdk_65_method_132_code 1 (.ifCond .ne 9) 3 4 := ⟨by decide +kernel, rfl⟩
theorem i16_4 : Jvm.Own.Ins jdk_65_method_132_code 4 (.iload_n 2) 1 5 := ⟨by decide +kernel, rfl⟩
theorem i16_5 : Jvm.Own.Ins jdk_65_method_132_code 5 (.aload_n 0) 1 6 := ⟨by decide +kernel, rfl⟩
theorem i16_6 : Jvm.Own.Ins jdk_65_method_132_code 6 (.arraylength) 1 7 := ⟨by decide +kernel, rfl⟩
theorem i16_7 : Jvm.Own.Ins jdk_65_method_132_code 7 (.if_icmp .eq 10) 3 10 := ⟨by decide +kernel, rfl⟩
theorem i16_10 : Jvm.Own.Ins jdk_65_method_132_code 10 (.aload_n 0) 1 11 := ⟨by decide +kernel, rfl⟩
theorem i16_11 : Jvm.Own.Ins jdk_65_method_132_code 11 (.iload_n 1) 1 12 := ⟨by decide +kernel, rfl⟩
theorem i16_12 : Jvm.Own.Ins jdk_65_method_132_code 12 (.iload_n 2) 1 13 := ⟨by decide +kernel, rfl⟩
theorem i16_13 : Jvm.Own.Ins jdk_65_method_132_code 13 (.invokestatic 339) 3 16 := ⟨by decide +kernel, rfl⟩
theorem i16_16 : Jvm.Own.Ins jdk_65_method_132_code 16 (.areturn) 1 17 := ⟨by decide +kernel, rfl⟩
theorem i17_0 : Jvm.Own.Ins jdk_42_method_150_code 0 (.aload_n 0) 1 1 := ⟨by decide +kernel, rfl⟩
theorem i17_1 : Jvm.Own.Ins jdk_42_method_150_code 1 (.invokespecial 1) 3 4 := ⟨by decide +kernel, rfl⟩
theorem i17_4 : Jvm.Own.Ins jdk_42_method_150_code 4 (.aload_n 1) 1 5 := ⟨by decide +kernel, rfl⟩
theorem i17_5 : Jvm.Own.Ins jdk_42_method_150_code 5 (.invokevirtual 552) 3 8 := ⟨by decide +kernel, rfl⟩
theorem i17_8 : Jvm.Own.Ins jdk_42_method_150_code 8 (.astore_n 3) 1 9 := ⟨by decide +kernel, rfl⟩
theorem i17_9 : Jvm.Own.Ins jdk_42_method_150_code 9 (.aload_n 1) 1 10 := ⟨by decide +kernel, rfl⟩
theorem i17_10 : Jvm.Own.Ins jdk_42_method_150_code 10 (.invokevirtual 549) 3 13 := ⟨by decide +kernel, rfl⟩
theorem i17_13 : Jvm.Own.Ins jdk_42_method_150_code 13 (.istore 4) 2 15 := ⟨by decide +kernel, rfl⟩
theorem i17_15 : Jvm.Own.Ins jdk_42_method_150_code 15 (.aload_n 1) 1 16 := ⟨by decide +kernel, rfl⟩
theorem i17_16 : Jvm.Own.Ins jdk_42_method_150_code 16 (.invokevirtual 1047) 3 19 := ⟨by decide +kernel, rfl⟩
theorem i17_19 : Jvm.Own.Ins jdk_42_method_150_code 19 (.ifCond .eq 22) 3 22 := ⟨by decide +kernel, rfl⟩
theorem i17_22 : Jvm.Own.Ins jdk_42_method_150_code 22 (.aload_n 0) 1 23 := ⟨by decide +kernel, rfl⟩
theorem i17_23 : Jvm.Own.Ins jdk_42_method_150_code 23 (.iconst 0) 1 24 := ⟨by decide +kernel, rfl⟩
theorem i17_24 : Jvm.Own.Ins jdk_42_method_150_code 24 (.putfield 15) 3 27 := ⟨by decide +kernel, rfl⟩
theorem i17_27 : Jvm.Own.Ins jdk_42_method_150_code 27 (.aload_n 0) 1 28 := ⟨by decide +kernel, rfl⟩
theorem i17_28 : Jvm.Own.Ins jdk_42_method_150_code 28 (.aload_n 3) 1 29 := ⟨by decide +kernel, rfl⟩
theorem i17_29 : Jvm.Own.Ins jdk_42_method_150_code 29 (.iconst 0) 1 30 := ⟨by decide +kernel, rfl⟩
theorem i17_30 : Jvm.Own.Ins jdk_42_method_150_code 30 (.iload 4) 2 32 := ⟨by decide +kernel, rfl⟩
theorem i17_32 : Jvm.Own.Ins jdk_42_method_150_code 32 (.invokestatic 54) 3 35 := ⟨by decide +kernel, rfl⟩
theorem i17_35 : Jvm.Own.Ins jdk_42_method_150_code 35 (.putfield 9) 3 38 := ⟨by decide +kernel, rfl⟩
theorem i17_38 : Jvm.Own.Ins jdk_42_method_150_code 38 (.goto 59) 3 41 := ⟨by decide +kernel, rfl⟩
theorem i17_97 : Jvm.Own.Ins jdk_42_method_150_code 97 (.return_) 1 98 := ⟨by decide +kernel, rfl⟩
theorem i18_0 : Jvm.Own.Ins jdk_42_method_53_code 0 (.aload_n 0) 1 1 := ⟨by decide +kernel, rfl⟩
theorem i18_1 : Jvm.Own.Ins jdk_42_method_53_code 1 (.aload_n 1) 1 2 := ⟨by decide +kernel, rfl⟩
theorem i18_2 : Jvm.Own.Ins jdk_42_method_53_code 2 (.aconst_null) 1 3 := ⟨by decide +kernel, rfl⟩
theorem i18_3 : Jvm.Own.Ins jdk_42_method_53_code 3 (.invokespecial 489) 3 6 := ⟨by decide +kernel, rfl⟩
theorem i18_6 : Jvm.Own.Ins jdk_42_method_53_code 6 (.return_) 1 7 := ⟨by decide +kernel, rfl⟩
theorem i19_0 : Jvm.Own.Ins jdk_67_method_42_code 0 (.new 18) 3 3 := ⟨by decide +kernel, rfl⟩
theorem i19_3 : Jvm.Own.Ins jdk_67_method_42_code 3 (.dup) 1 4 := ⟨by decide +kernel, rfl⟩
theorem i19_4 : Jvm.Own.Ins jdk_67_method_42_code 4 (.aload_n 0) 1 5 := ⟨by decide +kernel, rfl⟩
theorem i19_5 : Jvm.Own.Ins jdk_67_method_42_code 5 (.invokespecial 137) 3 8 := ⟨by decide +kernel, rfl⟩
theorem i19_8 : Jvm.Own.Ins jdk_67_method_42_code 8 (.areturn) 1 9 := ⟨by decide +kernel, rfl⟩
theorem i20_0 : Jvm.Own.Ins jdk_42_method_149_code 0 (.aload_n 0) 1 1 := ⟨by decide +kernel, rfl⟩
theorem i20_1 : Jvm.Own.Ins jdk_42_method_149_code 1 (.invokespecial 1) 3 4 := ⟨by decide +kernel, rfl⟩
theorem i20_4 : Jvm.Own.Ins jdk_42_method_149_code 4 (.iload_n 3) 1 5 := ⟨by decide +kernel, rfl⟩
theorem i20_5 : Jvm.Own.Ins jdk_42_method_149_code 5 (.ifCond .ne 22) 3 8 := ⟨by decide +kernel, rfl⟩
theorem i20_8 : Jvm.Own.Ins jdk_42_method_149_code 8 (.aload_n 0) 1 9 := ⟨by decide +kernel, rfl⟩
theorem i20_9 : Jvm.Own.Ins jdk_42_method_149_code 9 (.ldc 7) 2 11 := ⟨by decide +kernel, rfl⟩
theorem i20_11 : Jvm.Own.Ins jdk_42_method_149_code 11 (.getfield 9) 3 14 := ⟨by decide +kernel, rfl⟩
theorem i20_14 : Jvm.Own.Ins jdk_42_method_149_code 14 (.putfield 9) 3 17 := ⟨by decide +kernel, rfl⟩
theorem i20_17 : Jvm.Own.Ins jdk_42_method_149_code 17 (.aload_n 0) 1 18 := ⟨by decide +kernel, rfl⟩
theorem i20_18 : Jvm.Own.Ins jdk_42_method_149_code 18 (.ldc 7) 2 20 := ⟨by decide +kernel, rfl⟩
theorem i20_20 : Jvm.Own.Ins jdk_42_method_149_code 20 (.getfield 15) 3 23 := ⟨by decide +kernel, rfl⟩
theorem i20_23 : Jvm.Own.Ins jdk_42_method_149_code 23 (.putfield 15) 3 26 := ⟨by decide +kernel, rfl⟩
theorem i20_26 : Jvm.Own.Ins jdk_42_method_149_code 26 (.return_) 1 27 := ⟨by decide +kernel, rfl⟩
theorem i21_0 : Jvm.Own.Ins jdk_42_method_3_code 0 (.aload_n 0) 1 1 := ⟨by decide +kernel, rfl⟩
theorem i21_1 : Jvm.Own.Ins jdk_42_method_3_code 1 (.aload_n 1) 1 2 := ⟨by decide +kernel, rfl⟩
theorem i21_2 : Jvm.Own.Ins jdk_42_method_3_code 2 (.iconst 0) 1 3 := ⟨by decide +kernel, rfl⟩
theorem i21_3 : Jvm.Own.Ins jdk_42_method_3_code 3 (.aload_n 1) 1 4 := ⟨by decide +kernel, rfl⟩
theorem i21_4 : Jvm.Own.Ins jdk_42_method_3_code 4 (.arraylength) 1 5 := ⟨by decide +kernel, rfl⟩
theorem i21_5 : Jvm.Own.Ins jdk_42_method_3_code 5 (.aconst_null) 1 6 := ⟨by decide +kernel, rfl⟩
theorem i21_6 : Jvm.Own.Ins jdk_42_method_3_code 6 (.invokespecial 27) 3 9 := ⟨by decide +kernel, rfl⟩
theorem i21_9 : Jvm.Own.Ins jdk_42_method_3_code 9 (.return_) 1 10 := ⟨by decide +kernel, rfl⟩
theorem i22_0 : Jvm.Own.Ins method_2_code 0 (.iload_n 0) 1 1 := ⟨by decide +kernel, rfl⟩
theorem i22_1 : Jvm.Own.Ins method_2_code 1 (.bipush 16) 2 3 := ⟨by decide +kernel, rfl⟩
theorem i22_3 : Jvm.Own.Ins method_2_code 3 (.iushr) 1 4 := ⟨by decide +kernel, rfl⟩
theorem i22_4 : Jvm.Own.Ins method_2_code 4 (.iconst 3) 1 5 := ⟨by decide +kernel, rfl⟩
theorem i22_5 : Jvm.Own.Ins method_2_code 5 (.irem) 1 6 := ⟨by decide +kernel, rfl⟩
theorem i22_6 : Jvm.Own.Ins method_2_code 6 (.ireturn) 1 7 := ⟨by decide +kernel, rfl⟩
theorem i23_0 : Jvm.Own.Ins method_3_code 0 (.iload_n 0) 1 1 := ⟨by decide +kernel, rfl⟩
theorem i23_1 : Jvm.Own.Ins method_3_code 1 (.invokestatic 7) 3 4 := ⟨by decide +kernel, rfl⟩
theorem i23_4 : Jvm.Own.Ins method_3_code 4 (.istore_n 1) 1 5 := ⟨by decide +kernel, rfl⟩
theorem i23_5 : Jvm.Own.Ins method_3_code 5 (.iload_n 0) 1 6 := ⟨by decide +kernel, rfl⟩
theorem i23_6 : Jvm.Own.Ins method_3_code 6 (.sipush 255) 3 9 := ⟨by decide +kernel, rfl⟩
theorem i23_9 : Jvm.Own.Ins method_3_code 9 (.iand) 1 10 := ⟨by decide +kernel, rfl⟩
theorem i23_10 : Jvm.Own.Ins method_3_code 10 (.i2c) 1 11 := ⟨by decide +kernel, rfl⟩
theorem i23_11 : Jvm.Own.Ins method_3_code 11 (.istore_n 2) 1 12 := ⟨by decide +kernel, rfl⟩
theorem i23_12 : Jvm.Own.Ins method_3_code 12 (.iload_n 0) 1 13 := ⟨by decide +kernel, rfl⟩
theorem i23_13 : Jvm.Own.Ins method_3_code 13 (.bipush 8) 2 15 := ⟨by decide +kernel, rfl⟩
theorem i23_15 : Jvm.Own.Ins method_3_code 15 (.iushr) 1 16 := ⟨by decide +kernel, rfl⟩
theorem i23_16 : Jvm.Own.Ins method_3_code 16 (.sipush 255) 3 19 := ⟨by decide +kernel, rfl⟩
theorem i23_19 : Jvm.Own.Ins method_3_code 19 (.iand) 1 20 := ⟨by decide +kernel, rfl⟩
theorem i23_20 : Jvm.Own.Ins method_3_code 20 (.i2c) 1 21 := ⟨by decide +kernel, rfl⟩
theorem i23_21 : Jvm.Own.Ins method_3_code 21 (.istore_n 3) 1 22 := ⟨by decide +kernel, rfl⟩
theorem i23_22 : Jvm.Own.Ins method_3_code 22 (.iload_n 1) 1 23 := ⟨by decide +kernel, rfl⟩
theorem i23_23 : Jvm.Own.Ins method_3_code 23 (.ifCond .ne 14) 3 26 := ⟨by decide +kernel, rfl⟩
theorem i23_26 : Jvm.Own.Ins method_3_code 26 (.new 13) 3 29 := ⟨by decide +kernel, rfl⟩
theorem i23_29 : Jvm.Own.Ins method_3_code 29 (.dup) 1 30 := ⟨by decide +kernel, rfl⟩
theorem i23_30 : Jvm.Own.Ins method_3_code 30 (.iconst 0) 1 31 := ⟨by decide +kernel, rfl⟩
theorem i23_31 : Jvm.Own.Ins method_3_code 31 (.newarray .char) 2 33 := ⟨by decide +kernel, rfl⟩
theorem i23_33 : Jvm.Own.Ins method_3_code 33 (.invokespecial 15) 3 36 := ⟨by decide +kernel, rfl⟩
theorem i23_36 : Jvm.Own.Ins method_3_code 36 (.areturn) 1 37 := ⟨by decide +kernel, rfl⟩
theorem i23_37 : Jvm.Own.Ins method_3_code 37 (.iload_n 1) 1 38 := ⟨by decide +kernel, rfl⟩
theorem i23_38 : Jvm.Own.Ins method_3_code 38 (.iconst 1) 1 39 := ⟨by decide +kernel, rfl⟩
theorem i23_39 : Jvm.Own.Ins method_3_code 39 (.if_icmp .ne 18) 3 42 := ⟨by decide +kernel, rfl⟩
theorem i23_42 : Jvm.Own.Ins method_3_code 42 (.new 13) 3 45 := ⟨by decide +kernel, rfl⟩
theorem i23_45 : Jvm.Own.Ins method_3_code 45 (.dup) 1 46 := ⟨by decide +kernel, rfl⟩
theorem i23_46 : Jvm.Own.Ins method_3_code 46 (.iconst 1) 1 47 := ⟨by decide +kernel, rfl⟩
theorem i23_47 : Jvm.Own.Ins method_3_code 47 (.newarray .char) 2 49 := ⟨by decide +kernel, rfl⟩
theorem i23_49 : Jvm.Own.Ins method_3_code 49 (.dup) 1 50 := ⟨by decide +kernel, rfl⟩
theorem i23_50 : Jvm.Own.Ins method_3_code 50 (.iconst 0) 1 51 := ⟨by decide +kernel, rfl⟩
theorem i23_51 : Jvm.Own.Ins method_3_code 51 (.iload_n 2) 1 52 := ⟨by decide +kernel, rfl⟩
theorem i23_52 : Jvm.Own.Ins method_3_code 52 (.castore) 1 53 := ⟨by decide +kernel, rfl⟩
theorem i23_53 : Jvm.Own.Ins method_3_code 53 (.invokespecial 15) 3 56 := ⟨by decide +kernel, rfl⟩
theorem i23_56 : Jvm.Own.Ins method_3_code 56 (.areturn) 1 57 := ⟨by decide +kernel, rfl⟩
theorem i23_57 : Jvm.Own.Ins method_3_code 57 (.new 13) 3 60 := ⟨by decide +kernel, rfl⟩
theorem i23_60 : Jvm.Own.Ins method_3_code 60 (.dup) 1 61 := ⟨by decide +kernel, rfl⟩
theorem i23_61 : Jvm.Own.Ins method_3_code 61 (.iconst 2) 1 62 := ⟨by decide +kernel, rfl⟩
theorem i23_62 : Jvm.Own.Ins method_3_code 62 (.newarray .char) 2 64 := ⟨by decide +kernel, rfl⟩
theorem i23_64 : Jvm.Own.Ins method_3_code 64 (.dup) 1 65 := ⟨by decide +kernel, rfl⟩
theorem i23_65 : Jvm.Own.Ins method_3_code 65 (.iconst 0) 1 66 := ⟨by decide +kernel, rfl⟩
theorem i23_66 : Jvm.Own.Ins method_3_code 66 (.iload_n 2) 1 67 := ⟨by decide +kernel, rfl⟩
theorem i23_67 : Jvm.Own.Ins method_3_code 67 (.castore) 1 68 := ⟨by decide +kernel, rfl⟩
theorem i23_68 : Jvm.Own.Ins method_3_code 68 (.dup) 1 69 := ⟨by decide +kernel, rfl⟩
theorem i23_69 : Jvm.Own.Ins method_3_code 69 (.iconst 1) 1 70 := ⟨by decide +kernel, rfl⟩
theorem i23_70 : Jvm.Own.Ins method_3_code 70 (.iload_n 3) 1 71 := ⟨by decide +kernel, rfl⟩
theorem i23_71 : Jvm.Own.Ins method_3_code 71 (.castore) 1 72 := ⟨by decide +kernel, rfl⟩
theorem i23_72 : Jvm.Own.Ins method_3_code 72 (.invokespecial 15) 3 75 := ⟨by decide +kernel, rfl⟩
theorem i23_75 : Jvm.Own.Ins method_3_code 75 (.areturn) 1 76 := ⟨by decide +kernel, rfl⟩
theorem i24_0 : Jvm.Own.Ins method_4_code 0 (.iload_n 2) 1 1 := ⟨by decide +kernel, rfl⟩
theorem i24_1 : Jvm.Own.Ins method_4_code 1 (.invokestatic 7) 3 4 := ⟨by decide +kernel, rfl⟩
theorem i24_4 : Jvm.Own.Ins method_4_code 4 (.istore_n 3) 1 5 := ⟨by decide +kernel, rfl⟩
theorem i24_5 : Jvm.Own.Ins method_4_code 5 (.iload_n 1) 1 6 := ⟨by decide +kernel, rfl⟩
theorem i24_6 : Jvm.Own.Ins method_4_code 6 (.istore 4) 2 8 := ⟨by decide +kernel, rfl⟩
theorem i24_8 : Jvm.Own.Ins method_4_code 8 (.iload_n 3) 1 9 := ⟨by decide +kernel, rfl⟩
theorem i24_9 : Jvm.Own.Ins method_4_code 9 (.ifCond .le 19) 3 12 := ⟨by decide +kernel, rfl⟩
theorem i24_12 : Jvm.Own.Ins method_4_code 12 (.aload_n 0) 1 13 := ⟨by decide +kernel, rfl⟩
theorem i24_13 : Jvm.Own.Ins method_4_code 13 (.iload 4) 2 15 := ⟨by decide +kernel, rfl⟩
theorem i24_15 : Jvm.Own.Ins method_4_code 15 (.iload_n 2) 1 16 := ⟨by decide +kernel, rfl⟩
theorem i24_16 : Jvm.Own.Ins method_4_code 16 (.sipush 255) 3 19 := ⟨by decide +kernel, rfl⟩
theorem i24_19 : Jvm.Own.Ins method_4_code 19 (.iand) 1 20 := ⟨by decide +kernel, rfl⟩
theorem i24_20 : Jvm.Own.Ins method_4_code 20 (.i2c) 1 21 := ⟨by decide +kernel, rfl⟩
theorem i24_21 : Jvm.Own.Ins method_4_code 21 (.castore) 1 22 := ⟨by decide +kernel, rfl⟩
theorem i24_22 : Jvm.Own.Ins method_4_code 22 (.iload 4) 2 24 := ⟨by decide +kernel, rfl⟩
theorem i24_24 : Jvm.Own.Ins method_4_code 24 (.iconst 1) 1 25 := ⟨by decide +kernel, rfl⟩
theorem i24_25 : Jvm.Own.Ins method_4_code 25 (.iadd) 1 26 := ⟨by decide +kernel, rfl⟩
theorem i24_26 : Jvm.Own.Ins method_4_code 26 (.istore 4) 2 28 := ⟨by decide +kernel, rfl⟩
theorem i24_28 : Jvm.Own.Ins method_4_code 28 (.iload_n 3) 1 29 := ⟨by decide +kernel, rfl⟩
theorem i24_29 : Jvm.Own.Ins method_4_code 29 (.iconst 1) 1 30 := ⟨by decide +kernel, rfl⟩
theorem i24_30 : Jvm.Own.Ins method_4_code 30 (.if_icmp .le 22) 3 33 := ⟨by decide +kernel, rfl⟩
theorem i24_33 : Jvm.Own.Ins method_4_code 33 (.aload_n 0) 1 34 := ⟨by decide +kernel, rfl⟩
theorem i24_34 : Jvm.Own.Ins method_4_code 34 (.iload 4) 2 36 := ⟨by decide +kernel, rfl⟩
theorem i24_36 : Jvm.Own.Ins method_4_code 36 (.iload_n 2) 1 37 := ⟨by decide +kernel, rfl⟩
theorem i24_37 : Jvm.Own.Ins method_4_code 37 (.bipush 8) 2 39 := ⟨by decide +kernel, rfl⟩
theorem i24_39 : Jvm.Own.Ins method_4_code 39 (.iushr) 1 40 := ⟨by decide +kernel, rfl⟩
theorem i24_40 : Jvm.Own.Ins method_4_code 40 (.sipush 255) 3 43 := ⟨by decide +kernel, rfl⟩
theorem i24_43 : Jvm.Own.Ins method_4_code 43 (.iand) 1 44 := ⟨by decide +kernel, rfl⟩
theorem i24_44 : Jvm.Own.Ins method_4_code 44 (.i2c) 1 45 := ⟨by decide +kernel, rfl⟩
theorem i24_45 : Jvm.Own.Ins method_4_code 45 (.castore) 1 46 := ⟨by decide +kernel, rfl⟩
theorem i24_46 : Jvm.Own.Ins method_4_code 46 (.iload 4) 2 48 := ⟨by decide +kernel, rfl⟩
theorem i24_48 : Jvm.Own.Ins method_4_code 48 (.iconst 1) 1 49 := ⟨by decide +kernel, rfl⟩
theorem i24_49 : Jvm.Own.Ins method_4_code 49 (.iadd) 1 50 := ⟨by decide +kernel, rfl⟩
theorem i24_50 : Jvm.Own.Ins method_4_code 50 (.istore 4) 2 52 := ⟨by decide +kernel, rfl⟩
theorem i24_52 : Jvm.Own.Ins method_4_code 52 (.iload 4) 2 54 := ⟨by decide +kernel, rfl⟩
theorem i24_54 : Jvm.Own.Ins method_4_code 54 (.ireturn) 1 55 := ⟨by decide +kernel, rfl⟩
theorem i25_0 : Jvm.Own.Ins method_5_code 0 (.iload_n 3) 1 1 := ⟨by decide +kernel, rfl⟩
theorem i25_1 : Jvm.Own.Ins method_5_code 1 (.iload_n 2) 1 2 := ⟨by decide +kernel, rfl⟩
theorem i25_2 : Jvm.Own.Ins method_5_code 2 (.if_icmp .ge 14) 3 5 := ⟨by decide +kernel, rfl⟩
theorem i25_5 : Jvm.Own.Ins method_5_code 5 (.aload_n 0) 1 6 := ⟨by decide +kernel, rfl⟩
theorem i25_6 : Jvm.Own.Ins method_5_code 6 (.iload_n 3) 1 7 := ⟨by decide +kernel, rfl⟩
theorem i25_7 : Jvm.Own.Ins method_5_code 7 (.invokevirtual 18) 3 10 := ⟨by decide +kernel, rfl⟩
theorem i25_10 : Jvm.Own.Ins method_5_code 10 (.aload_n 1) 1 11 := ⟨by decide +kernel, rfl⟩
theorem i25_11 : Jvm.Own.Ins method_5_code 11 (.iload_n 3) 1 12 := ⟨by decide +kernel, rfl⟩
theorem i25_12 : Jvm.Own.Ins method_5_code 12 (.caload) 1 13 := ⟨by decide +kernel, rfl⟩
theorem i25_13 : Jvm.Own.Ins method_5_code 13 (.if_icmp .ne 7) 3 16 := ⟨by decide +kernel, rfl⟩
theorem i25_16 : Jvm.Own.Ins method_5_code 16 (.iconst 1) 1 17 := ⟨by decide +kernel, rfl⟩
theorem i25_17 : Jvm.Own.Ins method_5_code 17 (.goto 4) 3 20 := ⟨by decide +kernel, rfl⟩
theorem i25_21 : Jvm.Own.Ins method_5_code 21 (.ireturn) 1 22 := ⟨by decide +kernel, rfl⟩
theorem i26_0 : Jvm.Own.Ins prog_23_method_1_code 0 (.aload_n 0) 1 1 := ⟨by decide +kernel, rfl⟩
theorem i26_1 : Jvm.Own.Ins prog_23_method_1_code 1 (.invokespecial 1) 3 4 := ⟨by decide +kernel, rfl⟩
theorem i26_4 : Jvm.Own.Ins prog_23_method_1_code 4 (.aload_n 0) 1 5 := ⟨by decide +kernel, rfl⟩
theorem i26_5 : Jvm.Own.Ins prog_23_method_1_code 5 (.aload_n 1) 1 6 := ⟨by decide +kernel, rfl⟩
theorem i26_6 : Jvm.Own.Ins prog_23_method_1_code 6 (.putfield 7) 3 9 := ⟨by decide +kernel, rfl⟩
theorem i26_9 : Jvm.Own.Ins prog_23_method_1_code 9 (.aload_n 0) 1 10 := ⟨by decide +kernel, rfl⟩
theorem i26_10 : Jvm.Own.Ins prog_23_method_1_code 10 (.aload_n 2) 1 11 := ⟨by decide +kernel, rfl⟩
theorem i26_11 : Jvm.Own.Ins prog_23_method_1_code 11 (.putfield 13) 3 14 := ⟨by decide +kernel, rfl⟩
theorem i26_14 : Jvm.Own.Ins prog_23_method_1_code 14 (.return_) 1 15 := ⟨by decide +kernel, rfl⟩
theorem i27_0 : Jvm.Own.Ins jdk_78_method_2_code 0 (.aload_n 0) 1 1 := ⟨by decide +kernel, rfl⟩
theorem i27_1 : Jvm.Own.Ins jdk_78_method_2_code 1 (.invokespecial 1) 3 4 := ⟨by decide +kernel, rfl⟩
theorem i27_4 : Jvm.Own.Ins jdk_78_method_2_code 4 (.aload_n 0) 1 5 := ⟨by decide +kernel, rfl⟩
theorem i27_5 : Jvm.Own.Ins jdk_78_method_2_code 5 (.aload_n 0) 1 6 := ⟨by decide +kernel, rfl⟩
theorem i27_6 : Jvm.Own.Ins jdk_78_method_2_code 6 (.putfield 7) 3 9 := ⟨by decide +kernel, rfl⟩
theorem i27_9 : Jvm.Own.Ins jdk_78_method_2_code 9 (.aload_n 0) 1 10 := ⟨by decide +kernel, rfl⟩
theorem i27_10 : Jvm.Own.Ins jdk_78_method_2_code 10 (.getstatic 13) 3 13 := ⟨by decide +kernel, rfl⟩
theorem i27_13 : Jvm.Own.Ins jdk_78_method_2_code 13 (.putfield 17) 3 16 := ⟨by decide +kernel, rfl⟩
theorem i27_16 : Jvm.Own.Ins jdk_78_method_2_code 16 (.aload_n 0) 1 17 := ⟨by decide +kernel, rfl⟩
theorem i27_17 : Jvm.Own.Ins jdk_78_method_2_code 17 (.getstatic 20) 3 20 := ⟨by decide +kernel, rfl⟩
theorem i27_20 : Jvm.Own.Ins jdk_78_method_2_code 20 (.putfield 24) 3 23 := ⟨by decide +kernel, rfl⟩
theorem i27_23 : Jvm.Own.Ins jdk_78_method_2_code 23 (.aload_n 0) 1 24 := ⟨by decide +kernel, rfl⟩
theorem i27_24 : Jvm.Own.Ins jdk_78_method_2_code 24 (.invokevirtual 27) 3 27 := ⟨by decide +kernel, rfl⟩
theorem i27_27 : Jvm.Own.Ins jdk_78_method_2_code 27 (.pop) 1 28 := ⟨by decide +kernel, rfl⟩
theorem i27_28 : Jvm.Own.Ins jdk_78_method_2_code 28 (.aload_n 0) 1 29 := ⟨by decide +kernel, rfl⟩
theorem i27_29 : Jvm.Own.Ins jdk_78_method_2_code 29 (.aload_n 1) 1 30 := ⟨by decide +kernel, rfl⟩
theorem i27_30 : Jvm.Own.Ins jdk_78_method_2_code 30 (.putfield 31) 3 33 := ⟨by decide +kernel, rfl⟩
theorem i27_33 : Jvm.Own.Ins jdk_78_method_2_code 33 (.return_) 1 34 := ⟨by decide +kernel, rfl⟩
theorem i28_0 : Jvm.Own.Ins jdk_59_method_2_code 0 (.aload_n 0) 1 1 := ⟨by decide +kernel, rfl⟩
theorem i28_1 : Jvm.Own.Ins jdk_59_method_2_code 1 (.aload_n 1) 1 2 := ⟨by decide +kernel, rfl⟩
theorem i28_2 : Jvm.Own.Ins jdk_59_method_2_code 2 (.invokespecial 7) 3 5 := ⟨by decide +kernel, rfl⟩
theorem i28_5 : Jvm.Own.Ins jdk_59_method_2_code 5 (.return_) 1 6 := ⟨by decide +kernel, rfl⟩
theorem i29_0 : Jvm.Own.Ins prog_17_method_1_code 0 (.aload_n 0) 1 1 := ⟨by decide +kernel, rfl⟩
theorem i29_1 : Jvm.Own.Ins prog_17_method_1_code 1 (.aload_n 1) 1 2 := ⟨by decide +kernel, rfl⟩
theorem i29_2 : Jvm.Own.Ins prog_17_method_1_code 2 (.invokespecial 1) 3 5 := ⟨by decide +kernel, rfl⟩
theorem i29_5 : Jvm.Own.Ins prog_17_method_1_code 5 (.return_) 1 6 := ⟨by decide +kernel, rfl⟩
theorem i30_0 : Jvm.Own.Ins prog_22_method_1_code 0 (.aload_n 0) 1 1 := ⟨by decide +kernel, rfl⟩
theorem i30_1 : Jvm.Own.Ins prog_22_method_1_code 1 (.new 1) 3 4 := ⟨by decide +kernel, rfl⟩
theorem i30_4 : Jvm.Own.Ins prog_22_method_1_code 4 (.dup) 1 5 := ⟨by decide +kernel, rfl⟩
theorem i30_5 : Jvm.Own.Ins prog_22_method_1_code 5 (.invokespecial 3) 3 8 := ⟨by decide +kernel, rfl⟩
theorem i30_8 : Jvm.Own.Ins prog_22_method_1_code 8 (.aload_n 1) 1 9 := ⟨by decide +kernel, rfl⟩
theorem i30_9 : Jvm.Own.Ins prog_22_method_1_code 9 (.invokevirtual 7) 3 12 := ⟨by decide +kernel, rfl⟩
theorem i30_12 : Jvm.Own.Ins prog_22_method_1_code 12 (.ldc 11) 2 14 := ⟨by decide +kernel, rfl⟩
theorem i30_14 : Jvm.Own.Ins prog_22_method_1_code 14 (.invokevirtual 7) 3 17 := ⟨by decide +kernel, rfl⟩
theorem i30_17 : Jvm.Own.Ins prog_22_method_1_code 17 (.aload_n 2) 1 18 := ⟨by decide +kernel, rfl⟩
theorem i30_18 : Jvm.Own.Ins prog_22_method_1_code 18 (.invokevirtual 7) 3 21 := ⟨by decide +kernel, rfl⟩
theorem i30_21 : Jvm.Own.Ins prog_22_method_1_code 21 (.ldc 11) 2 23 := ⟨by decide +kernel, rfl⟩
theorem i30_23 : Jvm.Own.Ins prog_22_method_1_code 23 (.invokevirtual 7) 3 26 := ⟨by decide +kernel, rfl⟩
theorem i30_26 : Jvm.Own.Ins prog_22_method_1_code 26 (.aload_n 3) 1 27 := ⟨by decide +kernel, rfl⟩
theorem i30_27 : Jvm.Own.Ins prog_22_method_1_code 27 (.invokevirtual 7) 3 30 := ⟨by decide +kernel, rfl⟩
theorem i30_30 : Jvm.Own.Ins prog_22_method_1_code 30 (.invokevirtual 13) 3 33 := ⟨by decide +kernel, rfl⟩
theorem i30_33 : Jvm.Own.Ins prog_22_method_1_code 33 (.invokespecial 17) 3 36 := ⟨by decide +kernel, rfl⟩
theorem i30_36 : Jvm.Own.Ins prog_22_method_1_code 36 (.return_) 1 37 := ⟨by decide +kernel, rfl⟩
theorem i31_0 : Jvm.Own.Ins prog_23_method_2_code 0 (.new 16) 3 3 := ⟨by decide +kernel, rfl⟩
theorem i31_3 : Jvm.Own.Ins prog_23_method_2_code 3 (.dup) 1 4 := ⟨by decide +kernel, rfl⟩
theorem i31_4 : Jvm.Own.Ins prog_23_method_2_code 4 (.aload_n 0) 1 5 := ⟨by decide +kernel, rfl⟩
theorem i31_5 : Jvm.Own.Ins prog_23_method_2_code 5 (.getfield 7) 3 8 := ⟨by decide +kernel, rfl⟩
theorem i31_8 : Jvm.Own.Ins prog_23_method_2_code 8 (.aload_n 0) 1 9 := ⟨by decide +kernel, rfl⟩
theorem i31_9 : Jvm.Own.Ins prog_23_method_2_code 9 (.getfield 13) 3 12 := ⟨by decide +kernel, rfl⟩
theorem i31_12 : Jvm.Own.Ins prog_23_method_2_code 12 (.aload_n 1) 1 13 := ⟨by decide +kernel, rfl⟩
theorem i31_13 : Jvm.Own.Ins prog_23_method_2_code 13 (.invokespecial 18) 3 16 := ⟨by decide +kernel, rfl⟩
theorem i31_16 : Jvm.Own.Ins prog_23_method_2_code 16 (.areturn) 1 17 := ⟨by decide +kernel, rfl⟩
theorem i32_0 : Jvm.Own.Ins jdk_78_method_6_code 0 (.aload_n 0) 1 1 := ⟨by decide +kernel, rfl⟩
theorem i32_1 : Jvm.Own.Ins jdk_78_method_6_code 1 (.getfield 31) 3 4 := ⟨by decide +kernel, rfl⟩
theorem i32_4 : Jvm.Own.Ins jdk_78_method_6_code 4 (.areturn) 1 5 := ⟨by decide +kernel, rfl⟩
theorem i33_0 : Jvm.Own.Ins code 0 (.new 22) 3 3 := ⟨at_0, rfl⟩
theorem i33_3 : Jvm.Own.Ins code 3 (.dup) 1 4 := ⟨at_3, rfl⟩
theorem i33_4 : Jvm.Own.Ins code 4 (.iload_n 0) 1 5 := ⟨at_4, rfl⟩
theorem i33_5 : Jvm.Own.Ins code 5 (.invokestatic 24) 3 8 := ⟨at_5, rfl⟩
theorem i33_8 : Jvm.Own.Ins code 8 (.iload_n 1) 1 9 := ⟨at_8, rfl⟩
theorem i33_9 : Jvm.Own.Ins code 9 (.invokestatic 24) 3 12 := ⟨at_9, rfl⟩
theorem i33_12 : Jvm.Own.Ins code 12 (.invokespecial 28) 3 15 := ⟨at_12, rfl⟩
theorem i33_15 : Jvm.Own.Ins code 15 (.astore_n 3) 1 16 := ⟨at_15, rfl⟩
theorem i33_16 : Jvm.Own.Ins code 16 (.aload_n 3) 1 17 := ⟨at_16, rfl⟩
theorem i33_17 : Jvm.Own.Ins code 17 (.iload_n 2) 1 18 := ⟨at_17, rfl⟩
theorem i33_18 : Jvm.Own.Ins code 18 (.invokestatic 24) 3 21 := ⟨at_18, rfl⟩
theorem i33_21 : Jvm.Own.Ins code 21 (.invokevirtual 31) 3 24 := ⟨at_21, rfl⟩
theorem i33_24 : Jvm.Own.Ins code 24 (.astore 4) 2 26 := ⟨at_24, rfl⟩
theorem i33_26 : Jvm.Own.Ins code 26 (.aload 4) 2 28 := ⟨at_26, rfl⟩
theorem i33_28 : Jvm.Own.Ins code 28 (.ifnonnull 5) 3 31 := ⟨at_28, rfl⟩
theorem i33_33 : Jvm.Own.Ins code 33 (.aload 4) 2 35 := ⟨at_33, rfl⟩
theorem i33_35 : Jvm.Own.Ins code 35 (.invokevirtual 35) 3 38 := ⟨at_35, rfl⟩
theorem i33_38 : Jvm.Own.Ins code 38 (.ifnull 5) 3 41 := ⟨at_38, rfl⟩
theorem i33_43 : Jvm.Own.Ins code 43 (.aload 4) 2 45 := ⟨at_43, rfl⟩
theorem i33_45 : Jvm.Own.Ins code 45 (.invokevirtual 41) 3 48 := ⟨at_45, rfl⟩
theorem i33_48 : Jvm.Own.Ins code 48 (.astore 5) 2 50 := ⟨at_48, rfl⟩
theorem i33_50 : Jvm.Own.Ins code 50 (.aload 5) 2 52 := ⟨at_50, rfl⟩
theorem i33_52 : Jvm.Own.Ins code 52 (.ifnonnull 5) 3 55 := ⟨at_52, rfl⟩
theorem i33_57 : Jvm.Own.Ins code 57 (.bipush 10) 2 59 := ⟨at_57, rfl⟩
theorem i33_59 : Jvm.Own.Ins code 59 (.newarray .char) 2 61 := ⟨at_59, rfl⟩
theorem i33_61 : Jvm.Own.Ins code 61 (.astore 6) 2 63 := ⟨at_61, rfl⟩
theorem i33_63 : Jvm.Own.Ins code 63 (.iconst 0) 1 64 := ⟨at_63, rfl⟩
theorem i33_64 : Jvm.Own.Ins code 64 (.istore 7) 2 66 := ⟨at_64, rfl⟩
theorem i33_66 : Jvm.Own.Ins code 66 (.aload 6) 2 68 := ⟨at_66, rfl⟩
theorem i33_68 : Jvm.Own.Ins code 68 (.iload 7) 2 70 := ⟨at_68, rfl⟩
theorem i33_70 : Jvm.Own.Ins code 70 (.iload_n 0) 1 71 := ⟨at_70, rfl⟩
theorem i33_71 : Jvm.Own.Ins code 71 (.invokestatic 45) 3 74 := ⟨at_71, rfl⟩
theorem i33_74 : Jvm.Own.Ins code 74 (.istore 7) 2 76 := ⟨at_74, rfl⟩
theorem i33_76 : Jvm.Own.Ins code 76 (.aload 6) 2 78 := ⟨at_76, rfl⟩
theorem i33_78 : Jvm.Own.Ins code 78 (.iload 7) 2 80 := ⟨at_78, rfl⟩
theorem i33_80 : Jvm.Own.Ins code 80 (.bipush 58) 2 82 := ⟨at_80, rfl⟩
theorem i33_82 : Jvm.Own.Ins code 82 (.castore) 1 83 := ⟨at_82, rfl⟩
theorem i33_83 : Jvm.Own.Ins code 83 (.aload 6) 2 85 := ⟨at_83, rfl⟩
theorem i33_85 : Jvm.Own.Ins code 85 (.iload 7) 2 87 := ⟨at_85, rfl⟩
theorem i33_87 : Jvm.Own.Ins code 87 (.iconst 1) 1 88 := ⟨at_87, rfl⟩
theorem i33_88 : Jvm.Own.Ins code 88 (.iadd) 1 89 := ⟨at_88, rfl⟩
theorem i33_89 : Jvm.Own.Ins code 89 (.bipush 32) 2 91 := ⟨at_89, rfl⟩
theorem i33_91 : Jvm.Own.Ins code 91 (.castore) 1 92 := ⟨at_91, rfl⟩
theorem i33_92 : Jvm.Own.Ins code 92 (.iload 7) 2 94 := ⟨at_92, rfl⟩
theorem i33_94 : Jvm.Own.Ins code 94 (.iconst 2) 1 95 := ⟨at_94, rfl⟩
theorem i33_95 : Jvm.Own.Ins code 95 (.iadd) 1 96 := ⟨at_95, rfl⟩
theorem i33_96 : Jvm.Own.Ins code 96 (.istore 7) 2 98 := ⟨at_96, rfl⟩
theorem i33_98 : Jvm.Own.Ins code 98 (.aload 6) 2 100 := ⟨at_98, rfl⟩
theorem i33_100 : Jvm.Own.Ins code 100 (.iload 7) 2 102 := ⟨at_100, rfl⟩
theorem i33_102 : Jvm.Own.Ins code 102 (.iload_n 1) 1 103 := ⟨at_102, rfl⟩
theorem i33_103 : Jvm.Own.Ins code 103 (.invokestatic 45) 3 106 := ⟨at_103, rfl⟩
theorem i33_106 : Jvm.Own.Ins code 106 (.istore 7) 2 108 := ⟨at_106, rfl⟩
theorem i33_108 : Jvm.Own.Ins code 108 (.aload 6) 2 110 := ⟨at_108, rfl⟩
theorem i33_110 : Jvm.Own.Ins code 110 (.iload 7) 2 112 := ⟨at_110, rfl⟩
theorem i33_112 : Jvm.Own.Ins code 112 (.bipush 58) 2 114 := ⟨at_112, rfl⟩
theorem i33_114 : Jvm.Own.Ins code 114 (.castore) 1 115 := ⟨at_114, rfl⟩
theorem i33_115 : Jvm.Own.Ins code 115 (.aload 6) 2 117 := ⟨at_115, rfl⟩
theorem i33_117 : Jvm.Own.Ins code 117 (.iload 7) 2 119 := ⟨at_117, rfl⟩
theorem i33_119 : Jvm.Own.Ins code 119 (.iconst 1) 1 120 := ⟨at_119, rfl⟩
theorem i33_120 : Jvm.Own.Ins code 120 (.iadd) 1 121 := ⟨at_120, rfl⟩
theorem i33_121 : Jvm.Own.Ins code 121 (.bipush 32) 2 123 := ⟨at_121, rfl⟩
theorem i33_123 : Jvm.Own.Ins code 123 (.castore) 1 124 := ⟨at_123, rfl⟩
theorem i33_124 : Jvm.Own.Ins code 124 (.iload 7) 2 126 := ⟨at_124, rfl⟩
theorem i33_126 : Jvm.Own.Ins code 126 (.iconst 2) 1 127 := ⟨at_126, rfl⟩
theorem i33_127 : Jvm.Own.Ins code 127 (.iadd) 1 128 := ⟨at_127, rfl⟩
theorem i33_128 : Jvm.Own.Ins code 128 (.istore 7) 2 130 := ⟨at_128, rfl⟩
theorem i33_130 : Jvm.Own.Ins code 130 (.aload 6) 2 132 := ⟨at_130, rfl⟩
theorem i33_132 : Jvm.Own.Ins code 132 (.iload 7) 2 134 := ⟨at_132, rfl⟩
theorem i33_134 : Jvm.Own.Ins code 134 (.iload_n 2) 1 135 := ⟨at_134, rfl⟩
theorem i33_135 : Jvm.Own.Ins code 135 (.invokestatic 45) 3 138 := ⟨at_135, rfl⟩
theorem i33_138 : Jvm.Own.Ins code 138 (.istore 7) 2 140 := ⟨at_138, rfl⟩
theorem i33_140 : Jvm.Own.Ins code 140 (.aload 5) 2 142 := ⟨at_140, rfl⟩
theorem i33_142 : Jvm.Own.Ins code 142 (.invokevirtual 49) 3 145 := ⟨at_142, rfl⟩
theorem i33_145 : Jvm.Own.Ins code 145 (.iload 7) 2 147 := ⟨at_145, rfl⟩
theorem i33_147 : Jvm.Own.Ins code 147 (.if_icmp .eq 5) 3 150 := ⟨at_147, rfl⟩
theorem i33_152 : Jvm.Own.Ins code 152 (.aload 5) 2 154 := ⟨at_152, rfl⟩
theorem i33_154 : Jvm.Own.Ins code 154 (.aload 6) 2 156 := ⟨at_154, rfl⟩
theorem i33_156 : Jvm.Own.Ins code 156 (.iload 7) 2 158 := ⟨at_156, rfl⟩
theorem i33_158 : Jvm.Own.Ins code 158 (.iconst 0) 1 159 := ⟨at_158, rfl⟩
theorem i33_159 : Jvm.Own.Ins code 159 (.invokestatic 53) 3 162 := ⟨at_159, rfl⟩
theorem i33_162 : Jvm.Own.Ins code 162 (.ifCond .eq 128) 3 165 := ⟨at_162, rfl⟩
theorem i33_165 : Jvm.Own.Ins code 165 (.aload 5) 2 167 := ⟨at_165, rfl⟩
theorem i33_167 : Jvm.Own.Ins code 167 (.aload 6) 2 169 := ⟨at_167, rfl⟩
theorem i33_169 : Jvm.Own.Ins code 169 (.iload 7) 2 171 := ⟨at_169, rfl⟩
theorem i33_171 : Jvm.Own.Ins code 171 (.iconst 1) 1 172 := ⟨at_171, rfl⟩
theorem i33_172 : Jvm.Own.Ins code 172 (.invokestatic 53) 3 175 := ⟨at_172, rfl⟩
theorem i33_175 : Jvm.Own.Ins code 175 (.ifCond .eq 115) 3 178 := ⟨at_175, rfl⟩
theorem i33_178 : Jvm.Own.Ins code 178 (.aload 5) 2 180 := ⟨at_178, rfl⟩
theorem i33_180 : Jvm.Own.Ins code 180 (.aload 6) 2 182 := ⟨at_180, rfl⟩
theorem i33_182 : Jvm.Own.Ins code 182 (.iload 7) 2 184 := ⟨at_182, rfl⟩
theorem i33_184 : Jvm.Own.Ins code 184 (.iconst 2) 1 185 := ⟨at_184, rfl⟩
theorem i33_185 : Jvm.Own.Ins code 185 (.invokestatic 53) 3 188 := ⟨at_185, rfl⟩
theorem i33_188 : Jvm.Own.Ins code 188 (.ifCond .eq 102) 3 191 := ⟨at_188, rfl⟩
theorem i33_191 : Jvm.Own.Ins code 191 (.aload 5) 2 193 := ⟨at_191, rfl⟩
theorem i33_193 : Jvm.Own.Ins code 193 (.aload 6) 2 195 := ⟨at_193, rfl⟩
theorem i33_195 : Jvm.Own.Ins code 195 (.iload 7) 2 197 := ⟨at_195, rfl⟩
theorem i33_197 : Jvm.Own.Ins code 197 (.iconst 3) 1 198 := ⟨at_197, rfl⟩
theorem i33_198 : Jvm.Own.Ins code 198 (.invokestatic 53) 3 201 := ⟨at_198, rfl⟩
theorem i33_201 : Jvm.Own.Ins code 201 (.ifCond .eq 89) 3 204 := ⟨at_201, rfl⟩
theorem i33_204 : Jvm.Own.Ins code 204 (.aload 5) 2 206 := ⟨at_204, rfl⟩
theorem i33_206 : Jvm.Own.Ins code 206 (.aload 6) 2 208 := ⟨at_206, rfl⟩
theorem i33_208 : Jvm.Own.Ins code 208 (.iload 7) 2 210 := ⟨at_208, rfl⟩
theorem i33_210 : Jvm.Own.Ins code 210 (.iconst 4) 1 211 := ⟨at_210, rfl⟩
theorem i33_211 : Jvm.Own.Ins code 211 (.invokestatic 53) 3 214 := ⟨at_211, rfl⟩
theorem i33_214 : Jvm.Own.Ins code 214 (.ifCond .eq 76) 3 217 := ⟨at_214, rfl⟩
theorem i33_217 : Jvm.Own.Ins code 217 (.aload 5) 2 219 := ⟨at_217, rfl⟩
theorem i33_219 : Jvm.Own.Ins code 219 (.aload 6) 2 221 := ⟨at_219, rfl⟩
theorem i33_221 : Jvm.Own.Ins code 221 (.iload 7) 2 223 := ⟨at_221, rfl⟩
theorem i33_223 : Jvm.Own.Ins code 223 (.iconst 5) 1 224 := ⟨at_223, rfl⟩
theorem i33_224 : Jvm.Own.Ins code 224 (.invokestatic 53) 3 227 := ⟨at_224, rfl⟩
theorem i33_227 : Jvm.Own.Ins code 227 (.ifCond .eq 63) 3 230 := ⟨at_227, rfl⟩
theorem i33_230 : Jvm.Own.Ins code 230 (.aload 5) 2 232 := ⟨at_230, rfl⟩
theorem i33_232 : Jvm.Own.Ins code 232 (.aload 6) 2 234 := ⟨at_232, rfl⟩
theorem i33_234 : Jvm.Own.Ins code 234 (.iload 7) 2 236 := ⟨at_234, rfl⟩
theorem i33_236 : Jvm.Own.Ins code 236 (.bipush 6) 2 238 := ⟨at_236, rfl⟩
theorem i33_238 : Jvm.Own.Ins code 238 (.invokestatic 53) 3 241 := ⟨at_238, rfl⟩
theorem i33_241 : Jvm.Own.Ins code 241 (.ifCond .eq 49) 3 244 := ⟨at_241, rfl⟩
theorem i33_244 : Jvm.Own.Ins code 244 (.aload 5) 2 246 := ⟨at_244, rfl⟩
theorem i33_246 : Jvm.Own.Ins code 246 (.aload 6) 2 248 := ⟨at_246, rfl⟩
theorem i33_248 : Jvm.Own.Ins code 248 (.iload 7) 2 250 := ⟨at_248, rfl⟩
theorem i33_250 : Jvm.Own.Ins code 250 (.bipush 7) 2 252 := ⟨at_250, rfl⟩
theorem i33_252 : Jvm.Own.Ins code 252 (.invokestatic 53) 3 255 := ⟨at_252, rfl⟩
theorem i33_255 : Jvm.Own.Ins code 255 (.ifCond .eq 35) 3 258 := ⟨at_255, rfl⟩
theorem i33_258 : Jvm.Own.Ins code 258 (.aload 5) 2 260 := ⟨at_258, rfl⟩
theorem i33_260 : Jvm.Own.Ins code 260 (.aload 6) 2 262 := ⟨at_260, rfl⟩
theorem i33_262 : Jvm.Own.Ins code 262 (.iload 7) 2 264 := ⟨at_262, rfl⟩
theorem i33_264 : Jvm.Own.Ins code 264 (.bipush 8) 2 266 := ⟨at_264, rfl⟩
theorem i33_266 : Jvm.Own.Ins code 266 (.invokestatic 53) 3 269 := ⟨at_266, rfl⟩
theorem i33_269 : Jvm.Own.Ins code 269 (.ifCond .eq 21) 3 272 := ⟨at_269, rfl⟩
theorem i33_272 : Jvm.Own.Ins code 272 (.aload 5) 2 274 := ⟨at_272, rfl⟩
theorem i33_274 : Jvm.Own.Ins code 274 (.aload 6) 2 276 := ⟨at_274, rfl⟩
theorem i33_276 : Jvm.Own.Ins code 276 (.iload 7) 2 278 := ⟨at_276, rfl⟩
theorem i33_278 : Jvm.Own.Ins code 278 (.bipush 9) 2 280 := ⟨at_278, rfl⟩
theorem i33_280 : Jvm.Own.Ins code 280 (.invokestatic 53) 3 283 := ⟨at_280, rfl⟩
theorem i33_283 : Jvm.Own.Ins code 283 (.ifCond .eq 7) 3 286 := ⟨at_283, rfl⟩
theorem i33_286 : Jvm.Own.Ins code 286 (.iconst 1) 1 287 := ⟨at_286, rfl⟩
theorem i33_287 : Jvm.Own.Ins code 287 (.goto 4) 3 290 := ⟨at_287, rfl⟩
theorem i33_291 : Jvm.Own.Ins code 291 (.ireturn) 1 292 := ⟨at_291, rfl⟩
theorem j1_8 : Jmp 1 (8) 9 := ⟨by decide, by decide⟩
theorem j2_7 : Jmp 2 (7) 9 := ⟨by decide, by decide⟩
theorem j2_14 : Jmp 2 (14) 16 := ⟨by decide, by decide⟩
theorem j2_35 : Jmp 2 (35) 37 := ⟨by decide, by decide⟩
theorem j6_4 : Jmp 6 (4) 10 := ⟨by decide, by decide⟩
theorem j9_19 : Jmp 9 (19) 28 := ⟨by decide, by decide⟩
theorem j10_4 : Jmp 10 (4) 14 := ⟨by decide, by decide⟩
theorem j14_4 : Jmp 14 (4) 18 := ⟨by decide, by decide⟩
theorem j14_7 : Jmp 14 (7) 21 := ⟨by decide, by decide⟩
theorem j14_24 : Jmp 14 (24) 38 := ⟨by decide, by decide⟩
theorem j17_4 : Jmp 17 (4) 21 := ⟨by decide, by decide⟩
theorem j22_16 : Jmp 22 (16) 38 := ⟨by decide, by decide⟩
theorem j23_14 : Jmp 23 (14) 37 := ⟨by decide, by decide⟩
theorem j25_18 : Jmp 25 (18) 43 := ⟨by decide, by decide⟩
theorem j28_5 : Jmp 28 (5) 33 := ⟨by decide, by decide⟩
theorem j30_22 : Jmp 30 (22) 52 := ⟨by decide, by decide⟩
theorem j38_5 : Jmp 38 (5) 43 := ⟨by decide, by decide⟩
theorem j38_59 : Jmp 38 (59) 97 := ⟨by decide, by decide⟩
theorem j39_18 : Jmp 39 (18) 57 := ⟨by decide, by decide⟩
theorem j52_5 : Jmp 52 (5) 57 := ⟨by decide, by decide⟩
theorem j147_5 : Jmp 147 (5) 152 := ⟨by decide, by decide⟩
theorem j287_4 : Jmp 287 (4) 291 := ⟨by decide, by decide⟩
theorem own_wS {Z : State} {a0 : Array Value} (hw : ∀ d ∈ tables_1, d.before a0 Z = true) : ∀ a ∈ Bundle.stringAtoms, a.before a0 Z = true := by
  intro a ha
  simp only [Bundle.stringAtoms, List.mem_cons, List.not_mem_nil, or_false] at ha
  rcases ha with rfl | rfl | rfl | rfl | rfl | rfl | rfl
  · exact hw _ wd_12
  · exact hw _ wd_11
  · exact hw _ wd_25
  · exact hw _ wd_26
  · exact hw _ wd_27
  · exact hw _ wd_28
  · exact hw _ wd_29
end Jvm.Pilot.@@N@@
namespace Jvm.Pilot.@@N@@
open Jvm Jvm.ClassFile Sem Op Lib Jvm.Free Jvm.Stand Jvm.LawKit Jvm.RoadKit Bundle Jvm.Own Jvm.Pilot.@@N@@.Jvm.D
section OwnStr
variable {C : Cx} {R : Room} {own : String} {b : ByteArray} {ml : Nat} {rt : Option FieldType} {nm : String} {q : Bool} {Z : State} {a0 : Array Value} {EL : List (String × Nat)} {n0 : Nat} {vm : Vm} {T : State} {h : Heap} {k n : Nat} {Q : Option Value → Heap → (Addr → Prop) → Prop} {pc pc' pt : Nat} {Ls Ls' : Array Slot} {st : List Value}
theorem own_strInit (X : On C R own b ml rt nm q Z a0 EL n0 vm T h k n) (hw : ∀ d ∈ tables_1, d.before a0 Z = true) {ix W k' n' : Nat} {x c0 : Addr} {kC : ClassId} {cs : List Int32} {d v0 w0 : Value} {z N : Int32} (hi : Jvm.Own.Ins b pc (.invokespecial ix) 3 pc')
    (w1 : (Cond.methodLink own ix ⟨"java/lang/String", "<init>", "([C)V"⟩).before a0 Z = true) (gx : n0 ≤ x) (E : Exa Z h x "java/lang/String") (V : Fld Z h x "java/lang/String" "value" "[B" v0) (W0 : Fld Z h x "java/lang/String" "coder" "B" w0) (K : Arv Z h c0 kC .char N (cs.map Value.int) d) (hN : N = Int32.ofNat cs.length) (l0 : 0 < cs.length) (l2 : cs.length ≤ 4000)
    (hp : ∀ c ∈ cs, ¬ c < 0 ∧ ¬ (255 : Int32) < c) (S : Sta Z Z.heap "java/lang/String" "COMPACT_STRINGS" "Z" (.int z)) (hz : ¬ z = 0) (Sf : Safe Z EL vm h x) (hsz : Ls.size = ml) (hW : 0 + (st.map fun v => v.category).sum = W) (hfr : 4 ≤ R.frames) (hlo : W + 65 ≤ R.locals)
    (hk' : k + 1 = k') (hn' : n + cs.length = n') (hc : k' ≤ R.cells) (hsl : n' ≤ R.slots)
    (g : ∀ T' h' t kb, On C R own b ml rt nm q Z a0 EL n0 vm T' h' k' n' → Keep h h' [x] → h.size ≤ t → Str Z h' x t kb cs → Go C R q Z EL n0 Q T' pc' Ls st) : Go C R q Z EL n0 Q T pc Ls (.ref c0 :: .ref x :: st) := by
  have hws : ∀ d ∈ StrChars.Road.words, d.before a0 Z = true := fun d hd => hw d ((by decide +kernel : ∀ d ∈ StrChars.Road.words, d ∈ tables_1) d hd)
  refine X.backI (W := W) (a := x) (argsL := [.ref c0]) hi (StrChars.Road.backV (W := W) X.zw hws (kI := 4) (hw _ wd_11) (cs := cs) (bs := cs.map fun c => c.toInt8.toInt32) (n := cs.length) gx X.n0le E V W0 K (S.ext X.ext0) hz rfl hN l0 l2 hp rfl hfr hlo) (fun v h' L hq => ⟨hq.2.1, CHr.keep hq.2.2.1 (sfS Sf sf0) X.chv, X.old.keep hq.2.2.1 (allS gx all0)⟩) w1 (hw _ wd_15) (hw _ wd_16) rfl (by decide) pd16 rfl rfl hsz hW hk' hn' hc hsl ?_
  rintro T' h' v L X' ⟨rfl, -, K', E', D', t, kb, -, ht, -, V', A'⟩
  refine g T' h' t kb X' K' ht ⟨E', V', D', ?_, hp⟩
  rw [hN, List.map_map] at A'; exact A'
theorem own_strLen (X : On C R own b ml rt nm q Z a0 EL n0 vm T h k n) (hw : ∀ d ∈ tables_1, d.before a0 Z = true) {ix W : Nat} {x t : Addr} {kb : ClassId} {cs : List Int32} {z zz : Int32} (hi : Jvm.Own.Ins b pc (.invokevirtual ix) 3 pc')
    (w1 : (Cond.methodLink own ix ⟨"java/lang/String", "length", "()I"⟩).before a0 Z = true) (F : Str Z h x t kb cs) (l2 : cs.length ≤ 4000)
    (S : Sta Z Z.heap "java/lang/String" "COMPACT_STRINGS" "Z" (.int zz)) (hz : ¬ zz = 0) (hsz : Ls.size = ml) (hW : 0 + (st.map fun v => v.category).sum = W) (hfr : 2 ≤ R.frames) (hlo : W + 25 ≤ R.locals) (hc : k ≤ R.cells) (hsl : n ≤ R.slots) (hzz : Int32.ofNat cs.length = z)
    (g : ∀ T', On C R own b ml rt nm q Z a0 EL n0 vm T' h k n → Go C R q Z EL n0 Q T' pc' Ls (.int z :: st)) : Go C R q Z EL n0 Q T pc Ls (.ref x :: st) := by
  subst hzz
  have hws : ∀ d ∈ StrChars.Road.wordsLen, d.before a0 Z = true := fun d hd => hw d ((by decide +kernel : ∀ d ∈ StrChars.Road.wordsLen, d ∈ tables_1) d hd)
  refine X.backVt (W := W) (a := x) (argsL := []) (QQ := fun v h' L => v = some (.int (Int32.ofNat cs.length)) ∧ L = [] ∧ h' = h) hi (StrChars.Road.lenW (W := W) X.zw hws (kI := 4) (hw _ wd_11) F.1 F.2.1 F.2.2.1 F.2.2.2.1 (Or.inl ⟨rfl, rfl, rfl, fun c hc => (F.2.2.2.2 c hc).2⟩) (fun c hc => up16 (F.2.2.2.2 c hc)) (S.ext X.ext0) hz l2 hfr hlo) (fun v h' L hq => ⟨by rw [hq.2.1]; exact Fr.nil _, by rw [hq.2.2]; exact CHr.refl X.chv, by rw [hq.2.2]; exact X.old⟩) F.1 w1 (hw _ wd_80) (hw _ wd_82) (nfSel X.zw (hw _ wd_82)) (hw _ wd_81) (by decide) pd6 rfl rfl hsz hW rfl rfl hc hsl ?_
  rintro T' h' v L X' ⟨rfl, -, rfl⟩
  exact g T' X'
theorem own_strAt (X : On C R own b ml rt nm q Z a0 EL n0 vm T h k n) (hw : ∀ d ∈ tables_1, d.before a0 Z = true) {ix W i : Nat} {x t : Addr} {kb : ClassId} {cs : List Int32} {zz j c : Int32} {fm : Value} (hi : Jvm.Own.Ins b pc (.invokevirtual ix) 3 pc')
    (w1 : (Cond.methodLink own ix ⟨"java/lang/String", "charAt", "(I)C"⟩).before a0 Z = true) (F : Str Z h x t kb cs) (l2 : cs.length ≤ 4000)
    (S : Sta Z Z.heap "java/lang/String" "COMPACT_STRINGS" "Z" (.int zz)) (hz : ¬ zz = 0) (SF : Sta Z Z.heap "jdk/internal/util/Preconditions" "SIOOBE_FORMATTER" "Ljava/util/function/BiFunction;" fm) (hfm : fm.isRef = true) (hil : i < cs.length) (hj : j = Int32.ofNat i) (hcc : cs.getD i 0 = c) (hsz : Ls.size = ml) (hW : 0 + (st.map fun v => v.category).sum = W) (hfr : 4 ≤ R.frames) (hlo : W + 53 ≤ R.locals) (hc : k ≤ R.cells) (hsl : n ≤ R.slots)
    (g : ∀ T', On C R own b ml rt nm q Z a0 EL n0 vm T' h k n → Go C R q Z EL n0 Q T' pc' Ls (.int c :: st)) : Go C R q Z EL n0 Q T pc Ls (.int j :: .ref x :: st) := by
  subst hcc
  have hws : ∀ d ∈ StrChars.Road.wordsChN, d.before a0 Z = true := fun d hd => hw d ((by decide +kernel : ∀ d ∈ StrChars.Road.wordsChN, d ∈ tables_1) d hd)
  refine X.backVt (W := W) (a := x) (argsL := [.int j]) (QQ := fun v h' L => v = some (.int (cs.getD i 0)) ∧ L = [] ∧ h' = h) hi (StrChars.Road.chN (W := W) X.zw hws (kI := 4) (hw _ wd_11) F.1 F.2.1 F.2.2.1 F.2.2.2.1 (Or.inl ⟨rfl, rfl, rfl, fun c hc => (F.2.2.2.2 c hc).2⟩) (fun c hc => up16 (F.2.2.2.2 c hc)) (S.ext X.ext0) hz (SF.ext X.ext0) hfm l2 hil hj hfr hlo) (fun v h' L hq => ⟨by rw [hq.2.1]; exact Fr.nil _, by rw [hq.2.2]; exact CHr.refl X.chv, by rw [hq.2.2]; exact X.old⟩) F.1 w1 (hw _ wd_236) (hw _ wd_238) (nfSel X.zw (hw _ wd_238)) (hw _ wd_237) (by decide) pd26 rfl rfl hsz hW rfl rfl hc hsl ?_
  rintro T' h' v L X' ⟨rfl, -, rfl⟩
  exact g T' X'
end OwnStr
end Jvm.Pilot.@@N@@
namespace Jvm.Pilot.@@N@@
open Jvm Jvm.ClassFile Sem Op Lib Jvm.Free Jvm.Stand Jvm.LawKit Jvm.RoadKit Bundle Jvm.Own Jvm.Pilot.@@N@@.Jvm.D
def own_mk (n x y : Int32) : List Int32 := if n = 0 then [] else if n = 1 then [x] else [x, y]
theorem own_mk0 (x y : Int32) : own_mk 0 x y = [] := by simp [own_mk]
theorem own_mk1 (x y : Int32) : own_mk 1 x y = [x] := by simp [own_mk]
theorem own_mk2 (x y : Int32) : own_mk 2 x y = [x, y] := by simp [own_mk]
theorem own_mklen (n x y : Int32) : (own_mk n x y).length ≤ 4000 := by
  unfold own_mk
  split
  · simp
  · split <;> simp
abbrev own_lat (c : Int32) : Prop := ¬ c < 0 ∧ ¬ (255 : Int32) < c
theorem own_latr {c : Int32} (h : own_lat c) : 0 ≤ c.toInt ∧ c.toInt ≤ 255 := by
  have e0 : (0 : Int32).toInt = 0 := by decide
  have e1 : (255 : Int32).toInt = 255 := by decide
  have h1 : ¬ c.toInt < 0 := fun z => h.1 (Int32.lt_iff_toInt_lt.mpr (by omega))
  have h2 : ¬ 255 < c.toInt := fun z => h.2 (Int32.lt_iff_toInt_lt.mpr (by omega))
  omega
theorem own_i2c {c : Int32} (h : own_lat c) : c.toUInt32.toUInt16.toUInt32.toInt32 = c := by
  have q := c_i2c c
  have r := own_latr h
  apply Int32.toInt_inj.mp
  omega
theorem own_and3 (x : Int32) : x &&& 3 = 0 ∨ x &&& 3 = 1 ∨ x &&& 3 = 2 ∨ x &&& 3 = 3 := by
  have q := c_mask x 3 2 (by decide) (by decide)
  have e0 : (0 : Int32).toInt = 0 := by decide
  have e1 : (1 : Int32).toInt = 1 := by decide
  have e2 : (2 : Int32).toInt = 2 := by decide
  have e3 : (3 : Int32).toInt = 3 := by decide
  have r : (x &&& 3).toInt = 0 ∨ (x &&& 3).toInt = 1 ∨ (x &&& 3).toInt = 2 ∨ (x &&& 3).toInt = 3 := by omega
  rcases r with r | r | r | r
  · exact Or.inl (Int32.toInt_inj.mp (r.trans e0.symm))
  · exact Or.inr (Or.inl (Int32.toInt_inj.mp (r.trans e1.symm)))
  · exact Or.inr (Or.inr (Or.inl (Int32.toInt_inj.mp (r.trans e2.symm))))
  · exact Or.inr (Or.inr (Or.inr (Int32.toInt_inj.mp (r.trans e3.symm))))
abbrev own_f (c : Int32) : Value := Value.int c.toInt8.toInt32
theorem own_nn {n : Nat} (h : n ≤ 4000) : ¬ (Int32.ofNat n) < 0 := by
  intro z
  have z1 := Int32.lt_iff_toInt_lt.mp z
  have e1 : (Int32.ofNat n).toInt = n := Int32.toInt_ofNat_small (by omega)
  have e2 : (0 : Int32).toInt = 0 := by decide
  omega
theorem own_tn {n : Nat} (h : n ≤ 4000) : (Int32.ofNat n).toNatClampNeg = n := by
  have e1 : (Int32.ofNat n).toInt = n := Int32.toInt_ofNat_small (by omega)
  show (Int32.ofNat n).toInt.toNat = _
  rw [e1]; rfl
theorem own_addl (bs cs : List Int32) : Int32.ofNat bs.length + Int32.ofNat cs.length = Int32.ofNat (bs ++ cs).length := by
  rw [List.length_append, Int32.ofNat_add]
theorem own_room16 {n : Nat} (h : n ≤ 16) : ¬ (0 : Int32) < Int32.ofNat n - (16 : Int32) := by
  intro z
  have z1 := Int32.lt_iff_toInt_lt.mp z
  have e1 : (Int32.ofNat n).toInt = n := Int32.toInt_ofNat_small (by omega)
  have e2 : (0 : Int32).toInt = 0 := by decide
  have e3 : (16 : Int32).toInt = 16 := by decide
  have q := c_isub (Int32.ofNat n) 16
  have r := rng32 (Int32.ofNat n - 16)
  omega
theorem own_ne16 {n : Nat} (h : n < 16) : ¬ Int32.ofNat n = (16 : Int32) := by
  intro z
  have e1 : (Int32.ofNat n).toInt = n := Int32.toInt_ofNat_small (by omega)
  have e3 : (16 : Int32).toInt = 16 := by decide
  rw [z, e3] at e1; omega
theorem own_shl0 (x : Int32) : x <<< ((0 : Int32) &&& 31) = x := by
  have e : ((0 : Int32) &&& 31) = 0 := by decide
  rw [e]; simp
theorem own_shr0 (x : Int32) : x >>> ((0 : Int32) &&& 31) = x := by
  have e : ((0 : Int32) &&& 31) = 0 := by decide
  rw [e]; simp
theorem own_sub0 (x : Int32) : x - (0 : Int32) = x := by simp
theorem own_ge0 {n : Nat} (h : n ≤ 4000) : ¬ Int32.ofNat n < (0 : Int32) := own_nn h
theorem own_min16 {n : Nat} {r : Int32} (hn : n ≤ 16) (h : (r = (16 : Int32) ∧ ¬ (Int32.ofNat n) < (16 : Int32)) ∨ (r = Int32.ofNat n ∧ (Int32.ofNat n) < (16 : Int32))) : r = Int32.ofNat n := by
  rcases h with ⟨rfl, h⟩ | ⟨rfl, -⟩
  · have e1 : (Int32.ofNat n).toInt = n := Int32.toInt_ofNat_small (by omega)
    have e3 : (16 : Int32).toInt = 16 := by decide
    have : ¬ (Int32.ofNat n).toInt < (16 : Int32).toInt := fun z => h (Int32.lt_iff_toInt_lt.mpr z)
    have e4 : n = 16 := by omega
    rw [e4]; decide
  · rfl
theorem own_us (cs : List Int32) (d : Value) (k : Nat) (hk : k = cs.length) : (List.range k).map (fun i => (cs.map own_f).getD ((0 : Int32).toNatClampNeg + i) d) = cs.map own_f := by
  subst hk
  apply List.ext_getElem
  · simp
  · intro i h1 h2
    have e : (0 : Int32).toNatClampNeg + i = i := by
      have : (0 : Int32).toNatClampNeg = 0 := by decide
      omega
    simp only [List.getElem_map, List.getElem_range, e]
    simp at h2
    simp [h2]
theorem own_cat (bs cs : List Int32) (d : Value) {us : List Value} (hb : bs.length ≤ 4000) (hc : cs.length ≤ 4000) (hu : us = cs.map own_f) :
    (bs.map own_f ++ List.replicate cs.length d).take (Int32.ofNat bs.length).toNatClampNeg ++ us ++ (bs.map own_f ++ List.replicate cs.length d).drop ((Int32.ofNat bs.length).toNatClampNeg + (Int32.ofNat cs.length).toNatClampNeg) = (bs ++ cs).map own_f := by
  rw [own_tn hb, own_tn hc, hu]
  have e1 : (bs.map own_f ++ List.replicate cs.length d).take bs.length = bs.map own_f := by
    have : bs.length = (bs.map own_f).length := by simp
    rw [this, List.take_left]
  have e2 : (bs.map own_f ++ List.replicate cs.length d).drop (bs.length + cs.length) = [] := by
    apply List.drop_of_length_le; simp
  rw [e1, e2]; simp
theorem own_lapp {a b : List Int32} (h1 : ∀ c ∈ a, ¬ c < 0 ∧ ¬ (255 : Int32) < c) (h2 : ∀ c ∈ b, ¬ c < 0 ∧ ¬ (255 : Int32) < c) : ∀ c ∈ (a ++ b), ¬ c < 0 ∧ ¬ (255 : Int32) < c := by
  intro c hc
  rcases List.mem_append.mp hc with h | h
  · exact h1 c h
  · exact h2 c h
theorem own_ilt {i n : Nat} (h1 : i ≤ 4000) (h2 : n ≤ 4000) : Int32.ofNat i < Int32.ofNat n ↔ i < n := by
  have e1 : (Int32.ofNat i).toInt = i := Int32.toInt_ofNat_small (by omega)
  have e2 : (Int32.ofNat n).toInt = n := Int32.toInt_ofNat_small (by omega)
  rw [Int32.lt_iff_toInt_lt, e1, e2]; omega
theorem own_arrRef {s : State} {args : Array Value} {t : Term} {ty : FieldType} (h : (Cond.arrayOf t ty).before args s = true) : ∃ x, t.eval args s none [] s = some (.ref x) := by
  have h1 := Cond.before_iff.mp h
  simp only [Cond.value] at h1
  cases ht : t.eval args s none [] s with
  | none => simp [ht] at h1
  | some v => cases v <;> simp [ht] at h1 ⊢
theorem own_mk2l (n x y : Int32) : (own_mk n x y).length ≤ 2 := by
  unfold own_mk
  split
  · simp
  · split <;> simp
theorem own_mklat {n x y : Int32} (lx : own_lat x) (ly : own_lat y) : ∀ c ∈ own_mk n x y, ¬ c < 0 ∧ ¬ (255 : Int32) < c := by
  unfold own_mk
  split
  · exact own_all0
  · split
    · exact own_allS lx own_all0
    · exact own_allS lx (own_allS ly own_all0)
theorem own_rem3u (x : Int32) : ((x.toUInt32 >>> ((16 : Int32) &&& 31).toUInt32).toInt32) % 3 = 0 ∨ ((x.toUInt32 >>> ((16 : Int32) &&& 31).toUInt32).toInt32) % 3 = 1 ∨ ((x.toUInt32 >>> ((16 : Int32) &&& 31).toUInt32).toInt32) % 3 = 2 := by
  have u := c_iushr x 16 16 (by decide) (by decide)
  have rx := rng32 x
  generalize ((x.toUInt32 >>> ((16 : Int32) &&& 31).toUInt32).toInt32) = v at u ⊢
  have e3 : (3 : Int32).toInt = 3 := by decide
  have e0 : (0 : Int32).toInt = 0 := by decide
  have e1 : (1 : Int32).toInt = 1 := by decide
  have e2 : (2 : Int32).toInt = 2 := by decide
  have r : (v % 3).toInt = 0 ∨ (v % 3).toInt = 1 ∨ (v % 3).toInt = 2 := by
    have q := c_irem v 3 3 (by decide)
    omega
  rcases r with r | r | r
  · exact Or.inl (Int32.toInt_inj.mp (r.trans e0.symm))
  · exact Or.inr (Or.inl (Int32.toInt_inj.mp (r.trans e1.symm)))
  · exact Or.inr (Or.inr (Int32.toInt_inj.mp (r.trans e2.symm)))
theorem own_tn9 {n : Nat} (h : n ≤ 9) : (Int32.ofNat n).toNatClampNeg = n := own_tn (by omega)
theorem own_snoc {es fs : List Int32} {y : Int32} (d : Value) (h : es ++ [y] = fs) : ((es.map Value.int) ++ List.replicate 1 d).set es.length (.int y) = fs.map Value.int := by
  subst h
  have : es.length = (es.map Value.int).length := by simp
  rw [this, List.set_append_right _ _ (Nat.le_refl _)]; simp
theorem own_snl {es fs : List Int32} {y : Int32} (h : es ++ [y] = fs) : Int32.ofNat es.length + (1 : Int32) = Int32.ofNat fs.length := by
  subst h; rw [List.length_append, Int32.ofNat_add]; rfl
theorem own_snl2 {es fs : List Int32} {y z : Int32} (h : es ++ [y, z] = fs) : Int32.ofNat es.length + (2 : Int32) = Int32.ofNat fs.length := by
  subst h; rw [List.length_append, Int32.ofNat_add]; rfl
theorem own_in10 {n : Nat} (h : n ≤ 9) : ¬ Int32.ofNat n < (0 : Int32) ∧ Int32.ofNat n < (10 : Int32) := ⟨own_nn (by omega), (own_ilt (i := n) (n := 10) (by omega) (by omega)).mpr (by omega)⟩
theorem own_getm {cs : List Int32} {i : Nat} (d : Value) (h : i < cs.length) (h4 : i ≤ 4000) : (cs.map Value.int).getD (Int32.ofNat i).toNatClampNeg d = .int (cs.getD i 0) := by
  rw [own_tn h4]; simp [h]
set_option maxRecDepth 65536 in
set_option maxHeartbeats 40000000 in
theorem c_coder (l : Launch) {Z : State} {a0 : Array Value} {n0 : Nat} (hw : ∀ d ∈ tables_1, d.before a0 Z = true) (hEL : EW Z a0 own_EL) {zc : Int32} (hcs : Sta Z Z.heap "java/lang/String" "COMPACT_STRINGS" "Z" (.int zc)) (hcz : ¬ zc = 0) {fm : Value} (hfm : Sta Z Z.heap "jdk/internal/util/Preconditions" "SIOOBE_FORMATTER" "Ljava/util/function/BiFunction;" fm) (hfr : fm.isRef = true) (hst : l.stackTraces = true) (hKn : Z.vm.MethodsKnown) {us ss : Addr} (hus : Sta Z Z.heap "java/lang/Throwable" "UNASSIGNED_STACK" "[Ljava/lang/StackTraceElement;" (.ref us)) (hss : Sta Z Z.heap "java/lang/Throwable" "SUPPRESSED_SENTINEL" "Ljava/util/List;" (.ref ss)) {h : Heap} (hO : Old Z n0 h) (s : Addr) (F_c : Fld Z h s "java/lang/String" "coder" "B" (.int (0 : Int32))) :
    Con [] false l Z own_EL n0 [] (⟨"java/lang/String", "coder", "()B"⟩ : MethodName) jdk_42_method_152_code 1 (some .byte) ({ frames := 0, cells := 0, slots := 0, locals := 0 } : Room) #[(.ref s)] h (fun v h' sf => v = some (.int (0 : Int32)) ∧ h = h') := by
  refine Con.intro (Ls := #[.val (.ref s)]) pn0 hEL hO (fun m => by first | rfl | (simp [entryFrame, mkF, argsToLocals, Value.category]; done)) fun C vm T hl X hs => ?_
  have X : On C ({ frames := 0, cells := 0, slots := 0, locals := 0 } : Room) "java/lang/String" jdk_42_method_152_code 1 (some .byte) "coder" false Z a0 own_EL n0 vm T h 0 0 := X
  refine X.getstatic i0_0 (hw _ wd_89) Via.refl (hcs.ext X.ext0) fun T1 X1 => ?_
  refine X1.ifN i0_3 (XT.i0_eq_f hcz) ?_
  refine X1.aload_n i0_6 rfl rfl ?_
  refine X1.getfield i0_7 (hw _ wd_31) Via.refl F_c fun T2 X2 => ?_
  refine X2.goto i0_10 j10_4 ?_
  exact X2.ireturn i0_14 (t := .byte) rfl (by decide) rfl (by decide) (by decide) (fun sf hsf => ⟨rfl, rfl⟩)
set_option maxRecDepth 65536 in
set_option maxHeartbeats 40000000 in
theorem c_infl (l : Launch) {Z : State} {a0 : Array Value} {n0 : Nat} (hw : ∀ d ∈ tables_1, d.before a0 Z = true) (hEL : EW Z a0 own_EL) {zc : Int32} (hcs : Sta Z Z.heap "java/lang/String" "COMPACT_STRINGS" "Z" (.int zc)) (hcz : ¬ zc = 0) {fm : Value} (hfm : Sta Z Z.heap "jdk/internal/util/Preconditions" "SIOOBE_FORMATTER" "Ljava/util/function/BiFunction;" fm) (hfr : fm.isRef = true) (hst : l.stackTraces = true) (hKn : Z.vm.MethodsKnown) {us ss : Addr} (hus : Sta Z Z.heap "java/lang/Throwable" "UNASSIGNED_STACK" "[Ljava/lang/StackTraceElement;" (.ref us)) (hss : Sta Z Z.heap "java/lang/Throwable" "SUPPRESSED_SENTINEL" "Ljava/util/List;" (.ref ss)) {h : Heap} (hO : Old Z n0 h) (sb : Addr) (s : Addr) (F_b : Fld Z h sb "java/lang/AbstractStringBuilder" "coder" "B" (.int (0 : Int32))) (E_s : Exa Z h s "java/lang/String") (F_c : Fld Z h s "java/lang/String" "coder" "B" (.int (0 : Int32))) :
    Con [] false l Z own_EL n0 [] (⟨"java/lang/AbstractStringBuilder", "inflateIfNeededFor", "(Ljava/lang/String;)V"⟩ : MethodName) jdk_68_method_71_code 2 none ({ frames := 1, cells := 0, slots := 0, locals := 13 } : Room) #[(.ref sb), (.ref s)] h (fun v h' sf => v = none ∧ h = h') := by
  refine Con.intro (Ls := #[.val (.ref sb), .val (.ref s)]) pn1 hEL hO (fun m => by first | rfl | (simp [entryFrame, mkF, argsToLocals, Value.category]; done)) fun C vm T hl X hs => ?_
  have X : On C ({ frames := 1, cells := 0, slots := 0, locals := 13 } : Room) "java/lang/AbstractStringBuilder" jdk_68_method_71_code 2 none "inflateIfNeededFor" false Z a0 own_EL n0 vm T h 0 0 := X
  refine X.getstatic i1_0 (hw _ wd_64) Via.refl (hcs.ext X.ext0) fun T1 X1 => ?_
  refine X1.ifN i1_3 (XT.i0_eq_f hcz) ?_
  refine X1.aload_n i1_6 rfl rfl ?_
  refine X1.getfield i1_7 (hw _ wd_67) Via.refl F_b fun T2 X2 => ?_
  refine X2.aload_n i1_10 rfl rfl ?_
  refine X2.callV hl (argsL := []) (a := s) i1_11 (c_coder l hw hEL hcs hcz hfm hfr hst hKn hus hss X2.old s F_c) E_s (hw _ wd_107) (hw _ wd_85) (hw _ wd_87) (nfSel X2.zw (hw _ wd_87)) (hw _ wd_86) (hw _ wd_12) (hw _ wd_88) (by decide) sf_nil pd0 rfl rfl rfl (W := 1) rfl (by decide) (by decide) (k' := 0) rfl (n' := 0) rfl (by decide) (by decide) fun vm3 T3 h3 v3 X3 r3 Q3 => ?_
  obtain ⟨rfl, rfl⟩ := Q3
  show Go _ _ _ _ _ _ _ T3 14 #[.val (.ref sb), .val (.ref s)] [(.int (0 : Int32)), (.int (0 : Int32))]
  refine X3.icY i1_14 j14_7 (by decide) ?_
  exact X3.ret i1_21 rfl (by decide) (by decide) (fun sf hsf => ⟨rfl, rfl⟩)
set_option maxRecDepth 65536 in
set_option maxHeartbeats 40000000 in
theorem c_ens (l : Launch) {Z : State} {a0 : Array Value} {n0 : Nat} (hw : ∀ d ∈ tables_1, d.before a0 Z = true) (hEL : EW Z a0 own_EL) {zc : Int32} (hcs : Sta Z Z.heap "java/lang/String" "COMPACT_STRINGS" "Z" (.int zc)) (hcz : ¬ zc = 0) {fm : Value} (hfm : Sta Z Z.heap "jdk/internal/util/Preconditions" "SIOOBE_FORMATTER" "Ljava/util/function/BiFunction;" fm) (hfr : fm.isRef = true) (hst : l.stackTraces = true) (hKn : Z.vm.MethodsKnown) {us ss : Addr} (hus : Sta Z Z.heap "java/lang/Throwable" "UNASSIGNED_STACK" "[Ljava/lang/StackTraceElement;" (.ref us)) (hss : Sta Z Z.heap "java/lang/Throwable" "SUPPRESSED_SENTINEL" "Ljava/util/List;" (.ref ss)) {h : Heap} (hO : Old Z n0 h) (sb : Addr) (ar : Addr) (ka : ClassId) (vs : List Value) (m : Nat) (F_v : Fld Z h sb "java/lang/AbstractStringBuilder" "value" "[B" (.ref ar)) (F_c : Fld Z h sb "java/lang/AbstractStringBuilder" "coder" "B" (.int (0 : Int32))) (V_ar : Arv Z h ar ka .byte (16 : Int32) vs (.int (0 : Int32))) (hm : m ≤ 16) :
    Con [] false l Z own_EL n0 [] (⟨"java/lang/AbstractStringBuilder", "ensureCapacityInternal", "(I)V"⟩ : MethodName) jdk_68_method_9_code 3 none ({ frames := 0, cells := 0, slots := 0, locals := 0 } : Room) #[(.ref sb), (.int (Int32.ofNat m))] h (fun v h' sf => v = none ∧ h = h') := by
  refine Con.intro (Ls := #[.val (.ref sb), .val (.int (Int32.ofNat m)), .unset]) pn2 hEL hO (fun m => by first | rfl | (simp [entryFrame, mkF, argsToLocals, Value.category]; done)) fun C vm T hl X hs => ?_
  have X : On C ({ frames := 0, cells := 0, slots := 0, locals := 0 } : Room) "java/lang/AbstractStringBuilder" jdk_68_method_9_code 3 none "ensureCapacityInternal" false Z a0 own_EL n0 vm T h 0 0 := X
  refine X.aload_n i2_0 rfl rfl ?_
  refine X.getfield i2_1 (hw _ wd_65) Via.refl F_v fun T1 X1 => ?_
  refine X1.arraylength i2_4 V_ar ?_
  refine X1.aload_n i2_5 rfl rfl ?_
  refine X1.getfield i2_6 (hw _ wd_67) Via.refl F_c fun T2 X2 => ?_
  refine X2.ishr i2_9 (z := (16 : Int32)) rfl ?_
  refine X2.istore_n i2_10 (Ls' := #[.val (.ref sb), .val (.int (Int32.ofNat m)), .val (.int (16 : Int32))]) rfl ?_
  refine X2.iload_n i2_11 rfl ?_
  refine X2.iload_n i2_12 rfl ?_
  refine X2.isub i2_13 (z := ((Int32.ofNat m) - (16 : Int32))) rfl ?_
  refine X2.ifY i2_14 j14_24 (XT.i0_le_t (own_room16 hm)) ?_
  exact X2.ret i2_38 rfl (by decide) (by decide) (fun sf hsf => ⟨rfl, rfl⟩)
set_option maxRecDepth 65536 in
set_option maxHeartbeats 40000000 in
theorem c_getb (l : Launch) {Z : State} {a0 : Array Value} {n0 : Nat} (hw : ∀ d ∈ tables_1, d.before a0 Z = true) (hEL : EW Z a0 own_EL) {zc : Int32} (hcs : Sta Z Z.heap "java/lang/String" "COMPACT_STRINGS" "Z" (.int zc)) (hcz : ¬ zc = 0) {fm : Value} (hfm : Sta Z Z.heap "jdk/internal/util/Preconditions" "SIOOBE_FORMATTER" "Ljava/util/function/BiFunction;" fm) (hfr : fm.isRef = true) (hst : l.stackTraces = true) (hKn : Z.vm.MethodsKnown) {us ss : Addr} (hus : Sta Z Z.heap "java/lang/Throwable" "UNASSIGNED_STACK" "[Ljava/lang/StackTraceElement;" (.ref us)) (hss : Sta Z Z.heap "java/lang/Throwable" "SUPPRESSED_SENTINEL" "Ljava/util/List;" (.ref ss)) {h : Heap} (hO : Old Z n0 h) (s : Addr) (t : Addr) (kb : ClassId) (cs : List Int32) (ar : Addr) (ka : ClassId) (bs : List Int32) (S_s : Str Z h s t kb cs) (V_ar : Arv Z h ar ka .byte (16 : Int32) (bs.map own_f) (.int (0 : Int32))) (g_ar : n0 ≤ ar) (lb : bs.length ≤ 16) (lc : (bs ++ cs).length ≤ 16) :
    Con [] false l Z own_EL n0 [ar] (⟨"java/lang/String", "getBytes", "([BIB)V"⟩ : MethodName) jdk_42_method_147_code 4 none ({ frames := 1, cells := 0, slots := 0, locals := 18 } : Room) #[(.ref s), (.ref ar), (.int (Int32.ofNat bs.length)), (.int (0 : Int32))] h (fun v h' sf => v = none ∧ Keep h h' [ar] ∧ Arv Z h' ar ka .byte (16 : Int32) ((bs ++ cs).map own_f) (.int (0 : Int32)) ∧ sf ar) := by
  refine Con.intro (Ls := #[.val (.ref s), .val (.ref ar), .val (.int (Int32.ofNat bs.length)), .val (.int (0 : Int32))]) pn3 hEL hO (fun m => by first | rfl | (simp [entryFrame, mkF, argsToLocals, Value.category]; done)) fun C vm T hl X hs => ?_
  have X : On C ({ frames := 1, cells := 0, slots := 0, locals := 18 } : Room) "java/lang/String" jdk_42_method_147_code 4 none "getBytes" false Z a0 own_EL n0 vm T h 0 0 := X
  have sf_ar := hs ar (List.mem_of_getElem? (i := 0) rfl)
  have hl16 : bs.length + cs.length ≤ 16 := by rw [← List.length_append]; exact lc
  have lb4 : bs.length ≤ 4000 := by omega
  have lc4 : cs.length ≤ 4000 := by omega
  have Fv1 : Fld Z h s "java/lang/String" "value" "[B" (.ref t) := S_s.2.1
  have Fc1 : Fld Z h s "java/lang/String" "coder" "B" (.int (0 : Int32)) := S_s.2.2.1
  have Vt1 : Arv Z h t kb .byte (Int32.ofNat cs.length) (cs.map own_f) (.int (0 : Int32)) := S_s.2.2.2.1
  refine X.aload_n i3_0 rfl rfl ?_
  refine X.callV hl (argsL := []) (a := s) i3_1 (c_coder l hw hEL hcs hcz hfm hfr hst hKn hus hss X.old s Fc1) S_s.1 (hw _ wd_84) (hw _ wd_85) (hw _ wd_87) (nfSel X.zw (hw _ wd_87)) (hw _ wd_86) (hw _ wd_12) (hw _ wd_88) (by decide) sf_nil pd0 rfl rfl rfl (W := 0) rfl (by decide) (by decide) (k' := 0) rfl (n' := 0) rfl (by decide) (by decide) fun vm2 T2 h2 v2 X2 r2 Q2 => ?_
  obtain ⟨rfl, rfl⟩ := Q2
  show Go _ _ _ _ _ _ _ T2 4 #[.val (.ref s), .val (.ref ar), .val (.int (Int32.ofNat bs.length)), .val (.int (0 : Int32))] [(.int (0 : Int32))]
  refine X2.iload_n i3_4 rfl ?_
  refine X2.icN i3_5 (by decide) ?_
  refine X2.aload_n i3_8 rfl rfl ?_
  refine X2.getfield i3_9 (hw _ wd_30) Via.refl Fv1 fun T3 X3 => ?_
  refine X3.iconst i3_12 (z := (0 : Int32)) rfl ?_
  refine X3.aload_n i3_13 rfl rfl ?_
  refine X3.iload_n i3_14 rfl ?_
  refine X3.iload_n i3_15 rfl ?_
  refine X3.ishl i3_16 (z := (Int32.ofNat bs.length)) (own_shl0 _) ?_
  refine X3.aload_n i3_17 rfl rfl ?_
  refine X3.getfield i3_18 (hw _ wd_30) Via.refl Fv1 fun T4 X4 => ?_
  refine X4.arraylength i3_21 Vt1 ?_
  have Sf6 := (r2).safe (V_ar).lt sf_ar
  have B5 := V_ar.pad (pad_rep (bs.map own_f) (.int (0 : Int32)) cs.length)
  refine X4.arraycopy i3_22 (hw _ wd_113) (hw _ wd_116) (hw _ wd_114) (hw _ wd_115) Vt1 B5 rfl (by decide) (own_nn lb4) (own_nn lc4) (by rw [own_tn lc4]; exact Nat.le_of_eq (Nat.zero_add _)) (by rw [own_tn lb4, own_tn lc4]; exact hl16) rfl (by rw [own_tn lb4, own_tn lc4]; simp) g_ar Sf6 rfl (by decide) (W := 0) rfl (by decide) fun T5 h5 X5 K5 V5 => ?_
  have V5 : Arv Z h5 ar ka .byte (16 : Int32) ((bs ++ cs).map own_f) (.int (0 : Int32)) := by rw [← own_cat bs cs (.int (0 : Int32)) lb4 lc4 (own_us cs (.int (0 : Int32)) _ (own_tn lc4))]; exact V5
  refine X5.goto i3_25 j25_18 ?_
  have Sf7 := ((CHr.keep K5 (sfS Sf6 sf0) X4.chv)).safe (Nat.lt_of_lt_of_le (V_ar).lt (Nat.le_refl _)) Sf6
  exact X5.ret i3_43 rfl (by decide) (by decide) (fun sf hsf => ⟨rfl, ((Keep.refl _ [ar]).trans K5 (allS (Or.inl (List.mem_of_getElem? (i := 0) rfl)) all0)), V5, hsf _ Sf7⟩)
set_option maxRecDepth 65536 in
set_option maxHeartbeats 40000000 in
theorem c_put (l : Launch) {Z : State} {a0 : Array Value} {n0 : Nat} (hw : ∀ d ∈ tables_1, d.before a0 Z = true) (hEL : EW Z a0 own_EL) {zc : Int32} (hcs : Sta Z Z.heap "java/lang/String" "COMPACT_STRINGS" "Z" (.int zc)) (hcz : ¬ zc = 0) {fm : Value} (hfm : Sta Z Z.heap "jdk/internal/util/Preconditions" "SIOOBE_FORMATTER" "Ljava/util/function/BiFunction;" fm) (hfr : fm.isRef = true) (hst : l.stackTraces = true) (hKn : Z.vm.MethodsKnown) {us ss : Addr} (hus : Sta Z Z.heap "java/lang/Throwable" "UNASSIGNED_STACK" "[Ljava/lang/StackTraceElement;" (.ref us)) (hss : Sta Z Z.heap "java/lang/Throwable" "SUPPRESSED_SENTINEL" "Ljava/util/List;" (.ref ss)) {h : Heap} (hO : Old Z n0 h) (sb : Addr) (s : Addr) (t : Addr) (kb : ClassId) (cs : List Int32) (ar : Addr) (ka : ClassId) (bs : List Int32) (S_s : Str Z h s t kb cs) (E_sb : Exa Z h sb "java/lang/StringBuilder") (F_v : Fld Z h sb "java/lang/AbstractStringBuilder" "value" "[B" (.ref ar)) (F_c : Fld Z h sb "java/lang/AbstractStringBuilder" "coder" "B" (.int (0 : Int32))) (V_ar : Arv Z h ar ka .byte (16 : Int32) (bs.map own_f) (.int (0 : Int32))) (g_ar : n0 ≤ ar) (lb : bs.length ≤ 16) (lc : (bs ++ cs).length ≤ 16) :
    Con [] false l Z own_EL n0 [ar] (⟨"java/lang/AbstractStringBuilder", "putStringAt", "(ILjava/lang/String;)V"⟩ : MethodName) jdk_68_method_73_code 3 none ({ frames := 2, cells := 0, slots := 0, locals := 33 } : Room) #[(.ref sb), (.int (Int32.ofNat bs.length)), (.ref s)] h (fun v h' sf => v = none ∧ Keep h h' [ar] ∧ Arv Z h' ar ka .byte (16 : Int32) ((bs ++ cs).map own_f) (.int (0 : Int32)) ∧ sf ar) := by
  refine Con.intro (Ls := #[.val (.ref sb), .val (.int (Int32.ofNat bs.length)), .val (.ref s)]) pn4 hEL hO (fun m => by first | rfl | (simp [entryFrame, mkF, argsToLocals, Value.category]; done)) fun C vm T hl X hs => ?_
  have X : On C ({ frames := 2, cells := 0, slots := 0, locals := 33 } : Room) "java/lang/AbstractStringBuilder" jdk_68_method_73_code 3 none "putStringAt" false Z a0 own_EL n0 vm T h 0 0 := X
  have sf_ar := hs ar (List.mem_of_getElem? (i := 0) rfl)
  have Fv1 : Fld Z h s "java/lang/String" "value" "[B" (.ref t) := S_s.2.1
  have Fc1 : Fld Z h s "java/lang/String" "coder" "B" (.int (0 : Int32)) := S_s.2.2.1
  have Vt1 : Arv Z h t kb .byte (Int32.ofNat cs.length) (cs.map own_f) (.int (0 : Int32)) := S_s.2.2.2.1
  refine X.aload_n i4_0 rfl rfl ?_
  refine X.aload_n i4_1 rfl rfl ?_
  refine X.callP hl (argsL := [(.ref s)]) (a := sb) i4_2 (c_infl l hw hEL hcs hcz hfm hfr hst hKn hus hss X.old sb s F_c S_s.1 Fc1) E_sb (hw _ wd_102) (hw _ wd_103) (selP (by decide) (hw _ wd_105) (hw _ wd_103) (hw _ wd_104)) (hw _ wd_104) (hw _ wd_61) (hw _ wd_106) (by decide) sf_nil pd1 rfl rfl rfl (W := 0) rfl (by decide) (by decide) (k' := 0) rfl (n' := 0) rfl (by decide) (by decide) fun vm2 T2 h2 v2 X2 r2 Q2 => ?_
  obtain ⟨rfl, rfl⟩ := Q2
  show Go _ _ _ _ _ _ _ T2 5 #[.val (.ref sb), .val (.int (Int32.ofNat bs.length)), .val (.ref s)] []
  refine X2.aload_n i4_5 rfl rfl ?_
  refine X2.aload_n i4_6 rfl rfl ?_
  refine X2.getfield i4_7 (hw _ wd_65) Via.refl F_v fun T3 X3 => ?_
  refine X3.iload_n i4_10 rfl ?_
  refine X3.aload_n i4_11 rfl rfl ?_
  refine X3.getfield i4_12 (hw _ wd_67) Via.refl F_c fun T4 X4 => ?_
  have Sf6 := (r2).safe (V_ar).lt sf_ar
  refine X4.callV hl (argsL := [(.ref ar), (.int (Int32.ofNat bs.length)), (.int (0 : Int32))]) (a := s) i4_15 (c_getb l hw hEL hcs hcz hfm hfr hst hKn hus hss X4.old s t kb cs ar ka bs S_s V_ar g_ar lb lc) S_s.1 (hw _ wd_108) (hw _ wd_109) (hw _ wd_111) (nfSel X4.zw (hw _ wd_111)) (hw _ wd_110) (hw _ wd_12) (hw _ wd_112) (by decide) (sf_cons ⟨Sf6, (Nat.lt_of_lt_of_le (V_ar).lt (Nat.le_refl _))⟩ sf_nil) pd2 rfl rfl rfl (W := 0) rfl (by decide) (by decide) (k' := 0) rfl (n' := 0) rfl (by decide) (by decide) fun vm5 T5 h5 v5 X5 r5 Q5 => ?_
  obtain ⟨rfl, q5_0, q5_1, q5_2⟩ := Q5
  show Go _ _ _ _ _ _ _ T5 18 #[.val (.ref sb), .val (.int (Int32.ofNat bs.length)), .val (.ref s)] []
  exact X5.ret i4_18 rfl (by decide) (by decide) (fun sf hsf => ⟨rfl, ((Keep.refl _ [ar]).trans q5_0 (allS (Or.inl (List.mem_of_getElem? (i := 0) rfl)) all0)), q5_1, hsf _ q5_2⟩)
set_option maxRecDepth 65536 in
set_option maxHeartbeats 40000000 in
theorem c_aapp (l : Launch) {Z : State} {a0 : Array Value} {n0 : Nat} (hw : ∀ d ∈ tables_1, d.before a0 Z = true) (hEL : EW Z a0 own_EL) {zc : Int32} (hcs : Sta Z Z.heap "java/lang/String" "COMPACT_STRINGS" "Z" (.int zc)) (hcz : ¬ zc = 0) {fm : Value} (hfm : Sta Z Z.heap "jdk/internal/util/Preconditions" "SIOOBE_FORMATTER" "Ljava/util/function/BiFunction;" fm) (hfr : fm.isRef = true) (hst : l.stackTraces = true) (hKn : Z.vm.MethodsKnown) {us ss : Addr} (hus : Sta Z Z.heap "java/lang/Throwable" "UNASSIGNED_STACK" "[Ljava/lang/StackTraceElement;" (.ref us)) (hss : Sta Z Z.heap "java/lang/Throwable" "SUPPRESSED_SENTINEL" "Ljava/util/List;" (.ref ss)) {h : Heap} (hO : Old Z n0 h) (sb : Addr) (s : Addr) (t : Addr) (kb : ClassId) (cs : List Int32) (ar : Addr) (ka : ClassId) (bs : List Int32) (S_s : Str Z h s t kb cs) (E_sb : Exa Z h sb "java/lang/StringBuilder") (g_sb : n0 ≤ sb) (g_ar : n0 ≤ ar) (F_v : Fld Z h sb "java/lang/AbstractStringBuilder" "value" "[B" (.ref ar)) (F_c : Fld Z h sb "java/lang/AbstractStringBuilder" "coder" "B" (.int (0 : Int32))) (F_n : Fld Z h sb "java/lang/AbstractStringBuilder" "count" "I" (.int (Int32.ofNat bs.length))) (V_ar : Arv Z h ar ka .byte (16 : Int32) (bs.map own_f) (.int (0 : Int32))) (lb : bs.length ≤ 16) (lc : (bs ++ cs).length ≤ 16) (nes : sb ≠ ar) :
    Con [] false l Z own_EL n0 [ar] (⟨"java/lang/AbstractStringBuilder", "append", "(Ljava/lang/String;)Ljava/lang/AbstractStringBuilder;"⟩ : MethodName) jdk_68_method_22_code 3 (some (.object "java/lang/AbstractStringBuilder")) ({ frames := 3, cells := 0, slots := 0, locals := 47 } : Room) #[(.ref sb), (.ref s)] h (fun v h' sf => v = some (.ref sb) ∧ Keep h h' [sb, ar] ∧ Fld Z h' sb "java/lang/AbstractStringBuilder" "value" "[B" (.ref ar) ∧ Fld Z h' sb "java/lang/AbstractStringBuilder" "coder" "B" (.int (0 : Int32)) ∧ Fld Z h' sb "java/lang/AbstractStringBuilder" "count" "I" (.int (Int32.ofNat (bs ++ cs).length)) ∧ Arv Z h' ar ka .byte (16 : Int32) ((bs ++ cs).map own_f) (.int (0 : Int32)) ∧ sf ar) := by
  refine Con.intro (Ls := #[.val (.ref sb), .val (.ref s), .unset]) pn5 hEL hO (fun m => by first | rfl | (simp [entryFrame, mkF, argsToLocals, Value.category]; done)) fun C vm T hl X hs => ?_
  have X : On C ({ frames := 3, cells := 0, slots := 0, locals := 47 } : Room) "java/lang/AbstractStringBuilder" jdk_68_method_22_code 3 (some (.object "java/lang/AbstractStringBuilder")) "append" false Z a0 own_EL n0 vm T h 0 0 := X
  have sf_ar := hs ar (List.mem_of_getElem? (i := 0) rfl)
  have lc4 : cs.length ≤ 4000 := by have := lc; rw [List.length_append] at this; omega
  refine X.aload_n i5_0 rfl rfl ?_
  refine X.nonnullY i5_1 j1_8 ?_
  refine X.aload_n i5_9 rfl rfl ?_
  refine own_strLen X hw i5_10 (hw _ wd_79) S_s lc4 hcs hcz rfl (W := 0) rfl (by decide) (by decide) (by decide) (by decide) rfl fun T1 X1 => ?_
  refine X1.istore_n i5_13 (Ls' := #[.val (.ref sb), .val (.ref s), .val (.int (Int32.ofNat cs.length))]) rfl ?_
  refine X1.aload_n i5_14 rfl rfl ?_
  refine X1.aload_n i5_15 rfl rfl ?_
  refine X1.getfield i5_16 (hw _ wd_90) Via.refl F_n fun T2 X2 => ?_
  refine X2.iload_n i5_19 rfl ?_
  refine X2.iadd i5_20 (z := (Int32.ofNat (bs ++ cs).length)) (own_addl bs cs) ?_
  refine X2.callP hl (argsL := [(.int (Int32.ofNat (bs ++ cs).length))]) (a := sb) i5_21 (c_ens l hw hEL hcs hcz hfm hfr hst hKn hus hss X2.old sb ar ka (bs.map own_f) (bs ++ cs).length F_v F_c V_ar lc) E_sb (hw _ wd_92) (hw _ wd_93) (selP (by decide) (hw _ wd_95) (hw _ wd_93) (hw _ wd_94)) (hw _ wd_94) (hw _ wd_61) (hw _ wd_96) (by decide) sf_nil pd3 rfl rfl rfl (W := 0) rfl (by decide) (by decide) (k' := 0) rfl (n' := 0) rfl (by decide) (by decide) fun vm3 T3 h3 v3 X3 r3 Q3 => ?_
  obtain ⟨rfl, rfl⟩ := Q3
  show Go _ _ _ _ _ _ _ T3 24 #[.val (.ref sb), .val (.ref s), .val (.int (Int32.ofNat cs.length))] []
  refine X3.aload_n i5_24 rfl rfl ?_
  refine X3.aload_n i5_25 rfl rfl ?_
  refine X3.getfield i5_26 (hw _ wd_90) Via.refl F_n fun T4 X4 => ?_
  refine X4.aload_n i5_29 rfl rfl ?_
  have Sf6 := (r3).safe (V_ar).lt sf_ar
  refine X4.callP hl (argsL := [(.int (Int32.ofNat bs.length)), (.ref s)]) (a := sb) i5_30 (c_put l hw hEL hcs hcz hfm hfr hst hKn hus hss X4.old sb s t kb cs ar ka bs S_s E_sb F_v F_c V_ar g_ar lb lc) E_sb (hw _ wd_97) (hw _ wd_98) (selP (by decide) (hw _ wd_100) (hw _ wd_98) (hw _ wd_99)) (hw _ wd_99) (hw _ wd_61) (hw _ wd_101) (by decide) (sf_cons ⟨Sf6, (Nat.lt_of_lt_of_le (V_ar).lt (Nat.le_refl _))⟩ sf_nil) pd4 rfl rfl rfl (W := 0) rfl (by decide) (by decide) (k' := 0) rfl (n' := 0) rfl (by decide) (by decide) fun vm5 T5 h5 v5 X5 r5 Q5 => ?_
  obtain ⟨rfl, q5_0, q5_1, q5_2⟩ := Q5
  show Go _ _ _ _ _ _ _ T5 33 #[.val (.ref sb), .val (.ref s), .val (.int (Int32.ofNat cs.length))] []
  refine X5.aload_n i5_33 rfl rfl ?_
  refine X5.dup i5_34 rfl ?_
  have F7 := (F_n.keep q5_0 (ninS nes nin0))
  refine X5.getfield i5_35 (hw _ wd_90) Via.refl F7 fun T8 X8 => ?_
  refine X8.iload_n i5_38 rfl ?_
  refine X8.iadd i5_39 (z := (Int32.ofNat (bs ++ cs).length)) (own_addl bs cs) ?_
  have E9 := (E_sb.keep q5_0)
  refine X8.putfield i5_40 (hw _ wd_90) Via.refl F7 E9 (Or.inl (hw _ wd_91)) (hw _ wd_52) (ty := .int) (by decide) rfl rfl g_sb (Safe.exa X8.zw.alike E9 (by decide) (by decide)) fun T10 h10 X10 W10 => ?_
  refine X10.aload_n i5_43 rfl rfl ?_
  have F11 := ((F_v.keep q5_0 (ninS nes nin0)).other W10 (Or.inr (slot_ne (Or.inl (hw _ wd_66)) (Or.inl (hw _ wd_91)) (by decide) (t := (.array .byte)) (t' := .int) (by decide) (by decide))))
  have F12 := ((F_c.keep q5_0 (ninS nes nin0)).other W10 (Or.inr (slot_ne (Or.inl (hw _ wd_68)) (Or.inl (hw _ wd_91)) (by decide) (t := .byte) (t' := .int) (by decide) (by decide))))
  have V13 := (q5_1.other W10 (Ne.symm nes))
  have Sf14 := ((CHr.wr W10 (Safe.exa X8.zw.alike E9 (by decide) (by decide)) X8.chv)).safe (q5_1).lt q5_2
  exact X10.areturn i5_44 rfl rfl rfl (by decide) (by decide) (fun sf hsf => ⟨rfl, (((Keep.refl _ [sb, ar]).trans q5_0 (allS (Or.inl (List.mem_of_getElem? (i := 1) rfl)) all0)).wr W10 (Or.inl (List.mem_of_getElem? (i := 0) rfl))), F11, F12, (F7.same W10), V13, hsf _ Sf14⟩)
set_option maxRecDepth 65536 in
set_option maxHeartbeats 40000000 in
theorem c_app (l : Launch) {Z : State} {a0 : Array Value} {n0 : Nat} (hw : ∀ d ∈ tables_1, d.before a0 Z = true) (hEL : EW Z a0 own_EL) {zc : Int32} (hcs : Sta Z Z.heap "java/lang/String" "COMPACT_STRINGS" "Z" (.int zc)) (hcz : ¬ zc = 0) {fm : Value} (hfm : Sta Z Z.heap "jdk/internal/util/Preconditions" "SIOOBE_FORMATTER" "Ljava/util/function/BiFunction;" fm) (hfr : fm.isRef = true) (hst : l.stackTraces = true) (hKn : Z.vm.MethodsKnown) {us ss : Addr} (hus : Sta Z Z.heap "java/lang/Throwable" "UNASSIGNED_STACK" "[Ljava/lang/StackTraceElement;" (.ref us)) (hss : Sta Z Z.heap "java/lang/Throwable" "SUPPRESSED_SENTINEL" "Ljava/util/List;" (.ref ss)) {h : Heap} (hO : Old Z n0 h) (sb : Addr) (s : Addr) (t : Addr) (kb : ClassId) (cs : List Int32) (ar : Addr) (ka : ClassId) (bs : List Int32) (S_s : Str Z h s t kb cs) (E_sb : Exa Z h sb "java/lang/StringBuilder") (g_sb : n0 ≤ sb) (g_ar : n0 ≤ ar) (F_v : Fld Z h sb "java/lang/AbstractStringBuilder" "value" "[B" (.ref ar)) (F_c : Fld Z h sb "java/lang/AbstractStringBuilder" "coder" "B" (.int (0 : Int32))) (F_n : Fld Z h sb "java/lang/AbstractStringBuilder" "count" "I" (.int (Int32.ofNat bs.length))) (V_ar : Arv Z h ar ka .byte (16 : Int32) (bs.map own_f) (.int (0 : Int32))) (lb : bs.length ≤ 16) (lc : (bs ++ cs).length ≤ 16) (nes : sb ≠ ar) :
    Con [] false l Z own_EL n0 [ar] (⟨"java/lang/StringBuilder", "append", "(Ljava/lang/String;)Ljava/lang/StringBuilder;"⟩ : MethodName) jdk_67_method_7_code 2 (some (.object "java/lang/StringBuilder")) ({ frames := 4, cells := 0, slots := 0, locals := 61 } : Room) #[(.ref sb), (.ref s)] h (fun v h' sf => v = some (.ref sb) ∧ Keep h h' [sb, ar] ∧ Fld Z h' sb "java/lang/AbstractStringBuilder" "value" "[B" (.ref ar) ∧ Fld Z h' sb "java/lang/AbstractStringBuilder" "coder" "B" (.int (0 : Int32)) ∧ Fld Z h' sb "java/lang/AbstractStringBuilder" "count" "I" (.int (Int32.ofNat (bs ++ cs).length)) ∧ Arv Z h' ar ka .byte (16 : Int32) ((bs ++ cs).map own_f) (.int (0 : Int32)) ∧ sf ar) := by
  refine Con.intro (Ls := #[.val (.ref sb), .val (.ref s)]) pn6 hEL hO (fun m => by first | rfl | (simp [entryFrame, mkF, argsToLocals, Value.category]; done)) fun C vm T hl X hs => ?_
  have X : On C ({ frames := 4, cells := 0, slots := 0, locals := 61 } : Room) "java/lang/StringBuilder" jdk_67_method_7_code 2 (some (.object "java/lang/StringBuilder")) "append" false Z a0 own_EL n0 vm T h 0 0 := X
  have sf_ar := hs ar (List.mem_of_getElem? (i := 0) rfl)
  refine X.aload_n i6_0 rfl rfl ?_
  refine X.aload_n i6_1 rfl rfl ?_
  refine X.callU hl (argsL := [(.ref s)]) (a := sb) i6_2 (c_aapp l hw hEL hcs hcz hfm hfr hst hKn hus hss X.old sb s t kb cs ar ka bs S_s E_sb g_sb g_ar F_v F_c F_n V_ar lb lc nes) E_sb (hw _ wd_74) (sameOf (hw _ wd_77) (by decide) (hw _ wd_95) rfl) (hw _ wd_75) (hw _ wd_76) (by decide) (hw _ wd_61) (hw _ wd_78) (sf_cons ⟨sf_ar, (V_ar).lt⟩ sf_nil) pd5 rfl rfl rfl (W := 0) rfl (by decide) (by decide) (k' := 0) rfl (n' := 0) rfl (by decide) (by decide) fun vm1 T1 h1 v1 X1 r1 Q1 => ?_
  obtain ⟨rfl, q1_0, q1_1, q1_2, q1_3, q1_4, q1_5⟩ := Q1
  show Go _ _ _ _ _ _ _ T1 5 #[.val (.ref sb), .val (.ref s)] [(.ref sb)]
  refine X1.pop i6_5 rfl ?_
  refine X1.aload_n i6_6 rfl rfl ?_
  exact X1.areturn i6_7 rfl rfl rfl (by decide) (by decide) (fun sf hsf => ⟨rfl, ((Keep.refl _ [sb, ar]).trans q1_0 (allS (Or.inl (List.mem_of_getElem? (i := 0) rfl)) (allS (Or.inl (List.mem_of_getElem? (i := 1) rfl)) all0))), q1_1, q1_2, q1_3, q1_4, hsf _ q1_5⟩)
set_option maxRecDepth 65536 in
set_option maxHeartbeats 40000000 in
theorem c_asbi (l : Launch) {Z : State} {a0 : Array Value} {n0 : Nat} (hw : ∀ d ∈ tables_1, d.before a0 Z = true) (hEL : EW Z a0 own_EL) {zc : Int32} (hcs : Sta Z Z.heap "java/lang/String" "COMPACT_STRINGS" "Z" (.int zc)) (hcz : ¬ zc = 0) {fm : Value} (hfm : Sta Z Z.heap "jdk/internal/util/Preconditions" "SIOOBE_FORMATTER" "Ljava/util/function/BiFunction;" fm) (hfr : fm.isRef = true) (hst : l.stackTraces = true) (hKn : Z.vm.MethodsKnown) {us ss : Addr} (hus : Sta Z Z.heap "java/lang/Throwable" "UNASSIGNED_STACK" "[Ljava/lang/StackTraceElement;" (.ref us)) (hss : Sta Z Z.heap "java/lang/Throwable" "SUPPRESSED_SENTINEL" "Ljava/util/List;" (.ref ss)) {h : Heap} (hO : Old Z n0 h) (sb : Addr) (E_sb : Exa Z h sb "java/lang/StringBuilder") (g_sb : n0 ≤ sb) (F_v : Fld Z h sb "java/lang/AbstractStringBuilder" "value" "[B" .null) (F_c : Fld Z h sb "java/lang/AbstractStringBuilder" "coder" "B" (.int (0 : Int32))) (F_n : Fld Z h sb "java/lang/AbstractStringBuilder" "count" "I" (.int (0 : Int32))) :
    Con [] false l Z own_EL n0 [] (⟨"java/lang/AbstractStringBuilder", "<init>", "(I)V"⟩ : MethodName) jdk_68_method_2_code 2 none ({ frames := 1, cells := 1, slots := 16, locals := 12 } : Room) #[(.ref sb), (.int (16 : Int32))] h (fun v h' sf => ∃ (ar : Addr) (ka : ClassId), v = none ∧ Keep h h' [sb] ∧ h.size ≤ ar ∧ Fld Z h' sb "java/lang/AbstractStringBuilder" "value" "[B" (.ref ar) ∧ Fld Z h' sb "java/lang/AbstractStringBuilder" "coder" "B" (.int (0 : Int32)) ∧ Fld Z h' sb "java/lang/AbstractStringBuilder" "count" "I" (.int (Int32.ofNat ([] : List Int32).length)) ∧ Arv Z h' ar ka .byte (16 : Int32) (([] : List Int32).map own_f) (.int (0 : Int32)) ∧ sf ar) := by
  refine Con.intro (Ls := #[.val (.ref sb), .val (.int (16 : Int32))]) pn7 hEL hO (fun m => by first | rfl | (simp [entryFrame, mkF, argsToLocals, Value.category]; done)) fun C vm T hl X hs => ?_
  have X : On C ({ frames := 1, cells := 1, slots := 16, locals := 12 } : Room) "java/lang/AbstractStringBuilder" jdk_68_method_2_code 2 none "<init>" false Z a0 own_EL n0 vm T h 0 0 := X
  refine X.aload_n i7_0 rfl rfl ?_
  refine X.initO i7_1 (hw _ wd_63) (hw _ wd_22) (hw _ wd_23) rfl (by decide) (W := 0) rfl (by decide) fun T1 X1 => ?_
  refine X1.getstatic i7_4 (hw _ wd_64) Via.refl (hcs.ext X1.ext0) fun T2 X2 => ?_
  refine X2.ifN i7_7 (XT.i0_eq_f hcz) ?_
  refine X2.aload_n i7_10 rfl rfl ?_
  refine X2.iload_n i7_11 rfl ?_
  refine X2.newarray i7_12 (ty := .byte) rfl (hw _ wd_25) (by decide) (cap := 16) (by decide) (by decide) (k' := 1) rfl (n' := 16) rfl (by decide) (by decide) fun T3 h3 a3 c3 X3 E3 z3 g3 V3 Sf3 => ?_
  have V3 : Arv Z h3 a3 c3 .byte (16 : Int32) [(.int (0 : Int32)), (.int (0 : Int32)), (.int (0 : Int32)), (.int (0 : Int32)), (.int (0 : Int32)), (.int (0 : Int32)), (.int (0 : Int32)), (.int (0 : Int32)), (.int (0 : Int32)), (.int (0 : Int32)), (.int (0 : Int32)), (.int (0 : Int32)), (.int (0 : Int32)), (.int (0 : Int32)), (.int (0 : Int32)), (.int (0 : Int32))] (.int (0 : Int32)) := V3.pad (pad_rep [] (.int (0 : Int32)) 16)
  have V4 : Arv Z h3 a3 c3 .byte (16 : Int32) (([] : List Int32).map own_f) (.int (0 : Int32)) := V3.pad (fun i => by rcases i with _ | _ | _ | _ | _ | _ | _ | _ | _ | _ | _ | _ | _ | _ | _ | _ | i <;> rfl)
  have F5 := (F_v.ext E3)
  have E6 := (E_sb.ext E3)
  refine X3.putfield i7_14 (hw _ wd_65) Via.refl F5 E6 (Or.inl (hw _ wd_66)) (hw _ wd_52) (ty := (.array .byte)) (by decide) rfl rfl g_sb (Safe.exa X3.zw.alike E6 (by decide) (by decide)) fun T7 h7 X7 W7 => ?_
  refine X7.aload_n i7_17 rfl rfl ?_
  refine X7.iconst i7_18 (z := (0 : Int32)) rfl ?_
  have F8 := ((F_c.ext E3).other W7 (Or.inr (slot_ne (Or.inl (hw _ wd_68)) (Or.inl (hw _ wd_66)) (by decide) (t := .byte) (t' := (.array .byte)) (by decide) (by decide))))
  have E9 := (E6.wr W7)
  refine X7.putfield i7_19 (hw _ wd_67) Via.refl F8 E9 (Or.inl (hw _ wd_68)) (hw _ wd_52) (ty := .byte) (by decide) rfl rfl g_sb (Safe.exa X7.zw.alike E9 (by decide) (by decide)) fun T10 h10 X10 W10 => ?_
  refine X10.goto i7_22 j22_16 ?_
  have F11 := ((F5.same W7).other W10 (Or.inr (slot_ne (Or.inl (hw _ wd_66)) (Or.inl (hw _ wd_68)) (by decide) (t := (.array .byte)) (t' := .byte) (by decide) (by decide))))
  have F12 := (((F_n.ext E3).other W7 (Or.inr (slot_ne (Or.inl (hw _ wd_91)) (Or.inl (hw _ wd_66)) (by decide) (t := .int) (t' := (.array .byte)) (by decide) (by decide)))).other W10 (Or.inr (slot_ne (Or.inl (hw _ wd_91)) (Or.inl (hw _ wd_68)) (by decide) (t := .int) (t' := .byte) (by decide) (by decide))))
  have V13 := ((V4.other W7 (Nat.ne_of_gt (Nat.lt_of_lt_of_le (F_v).lt (Nat.le_of_eq z3)))).other W10 (Nat.ne_of_gt (Nat.lt_of_lt_of_le (F_v).lt (Nat.le_of_eq z3))))
  have Sf14 := (((CHr.wr W7 (Safe.exa X3.zw.alike E6 (by decide) (by decide)) X3.chv)).trans (CHr.wr W10 (Safe.exa X7.zw.alike E9 (by decide) (by decide)) X7.chv)).safe (V3).lt Sf3
  exact X10.ret i7_38 rfl (by decide) (by decide) (fun sf hsf => ⟨a3, c3, rfl, ((((Keep.refl _ [sb]).ext E3).wr W7 (Or.inl (List.mem_of_getElem? (i := 0) rfl))).wr W10 (Or.inl (List.mem_of_getElem? (i := 0) rfl))), (Nat.le_of_eq z3), F11, (F8.same W10), F12, V13, hsf _ Sf14⟩)
set_option maxRecDepth 65536 in
set_option maxHeartbeats 40000000 in
theorem c_sbi (l : Launch) {Z : State} {a0 : Array Value} {n0 : Nat} (hw : ∀ d ∈ tables_1, d.before a0 Z = true) (hEL : EW Z a0 own_EL) {zc : Int32} (hcs : Sta Z Z.heap "java/lang/String" "COMPACT_STRINGS" "Z" (.int zc)) (hcz : ¬ zc = 0) {fm : Value} (hfm : Sta Z Z.heap "jdk/internal/util/Preconditions" "SIOOBE_FORMATTER" "Ljava/util/function/BiFunction;" fm) (hfr : fm.isRef = true) (hst : l.stackTraces = true) (hKn : Z.vm.MethodsKnown) {us ss : Addr} (hus : Sta Z Z.heap "java/lang/Throwable" "UNASSIGNED_STACK" "[Ljava/lang/StackTraceElement;" (.ref us)) (hss : Sta Z Z.heap "java/lang/Throwable" "SUPPRESSED_SENTINEL" "Ljava/util/List;" (.ref ss)) {h : Heap} (hO : Old Z n0 h) (sb : Addr) (E_sb : Exa Z h sb "java/lang/StringBuilder") (g_sb : n0 ≤ sb) (F_v : Fld Z h sb "java/lang/AbstractStringBuilder" "value" "[B" .null) (F_c : Fld Z h sb "java/lang/AbstractStringBuilder" "coder" "B" (.int (0 : Int32))) (F_n : Fld Z h sb "java/lang/AbstractStringBuilder" "count" "I" (.int (0 : Int32))) :
    Con [] false l Z own_EL n0 [] (⟨"java/lang/StringBuilder", "<init>", "()V"⟩ : MethodName) jdk_67_method_1_code 1 none ({ frames := 2, cells := 1, slots := 16, locals := 25 } : Room) #[(.ref sb)] h (fun v h' sf => ∃ (ar : Addr) (ka : ClassId), v = none ∧ Keep h h' [sb] ∧ h.size ≤ ar ∧ Fld Z h' sb "java/lang/AbstractStringBuilder" "value" "[B" (.ref ar) ∧ Fld Z h' sb "java/lang/AbstractStringBuilder" "coder" "B" (.int (0 : Int32)) ∧ Fld Z h' sb "java/lang/AbstractStringBuilder" "count" "I" (.int (Int32.ofNat ([] : List Int32).length)) ∧ Arv Z h' ar ka .byte (16 : Int32) (([] : List Int32).map own_f) (.int (0 : Int32)) ∧ sf ar) := by
  refine Con.intro (Ls := #[.val (.ref sb)]) pn8 hEL hO (fun m => by first | rfl | (simp [entryFrame, mkF, argsToLocals, Value.category]; done)) fun C vm T hl X hs => ?_
  have X : On C ({ frames := 2, cells := 1, slots := 16, locals := 25 } : Room) "java/lang/StringBuilder" jdk_67_method_1_code 1 none "<init>" false Z a0 own_EL n0 vm T h 0 0 := X
  refine X.aload_n i8_0 rfl rfl ?_
  refine X.bipush i8_1 (z := (16 : Int32)) rfl ?_
  refine X.callI hl (argsL := [(.int (16 : Int32))]) (a := sb) i8_3 (c_asbi l hw hEL hcs hcz hfm hfr hst hKn hus hss X.old sb E_sb g_sb F_v F_c F_n) (hw _ wd_57) (hw _ wd_58) (hw _ wd_61) (hw _ wd_62) rfl (by decide) sf_nil pd3 rfl rfl rfl (W := 0) rfl (by decide) (by decide) (k' := 1) rfl (n' := 16) rfl (by decide) (by decide) fun vm1 T1 h1 v1 X1 r1 Q1 => ?_
  obtain ⟨ar_1, ka_1, rfl, q1_0, q1_1, q1_2, q1_3, q1_4, q1_5, q1_6⟩ := Q1
  have g2 := Nat.le_trans X.n0le q1_1
  show Go _ _ _ _ _ _ _ T1 6 #[.val (.ref sb)] []
  exact X1.ret i8_6 rfl (by decide) (by decide) (fun sf hsf => ⟨ar_1, ka_1, rfl, ((Keep.refl _ [sb]).trans q1_0 (allS (Or.inl (List.mem_of_getElem? (i := 0) rfl)) all0)), q1_1, q1_2, q1_3, q1_4, q1_5, hsf _ q1_6⟩)
set_option maxRecDepth 65536 in
set_option maxHeartbeats 40000000 in
theorem c_gv (l : Launch) {Z : State} {a0 : Array Value} {n0 : Nat} (hw : ∀ d ∈ tables_1, d.before a0 Z = true) (hEL : EW Z a0 own_EL) {zc : Int32} (hcs : Sta Z Z.heap "java/lang/String" "COMPACT_STRINGS" "Z" (.int zc)) (hcz : ¬ zc = 0) {fm : Value} (hfm : Sta Z Z.heap "jdk/internal/util/Preconditions" "SIOOBE_FORMATTER" "Ljava/util/function/BiFunction;" fm) (hfr : fm.isRef = true) (hst : l.stackTraces = true) (hKn : Z.vm.MethodsKnown) {us ss : Addr} (hus : Sta Z Z.heap "java/lang/Throwable" "UNASSIGNED_STACK" "[Ljava/lang/StackTraceElement;" (.ref us)) (hss : Sta Z Z.heap "java/lang/Throwable" "SUPPRESSED_SENTINEL" "Ljava/util/List;" (.ref ss)) {h : Heap} (hO : Old Z n0 h) (sb : Addr) (ar : Addr) (F_v : Fld Z h sb "java/lang/AbstractStringBuilder" "value" "[B" (.ref ar)) :
    Con [] false l Z own_EL n0 [] (⟨"java/lang/AbstractStringBuilder", "getValue", "()[B"⟩ : MethodName) jdk_68_method_64_code 1 (some (.array .byte)) ({ frames := 0, cells := 0, slots := 0, locals := 0 } : Room) #[(.ref sb)] h (fun v h' sf => v = some (.ref ar) ∧ h = h') := by
  refine Con.intro (Ls := #[.val (.ref sb)]) pn9 hEL hO (fun m => by first | rfl | (simp [entryFrame, mkF, argsToLocals, Value.category]; done)) fun C vm T hl X hs => ?_
  have X : On C ({ frames := 0, cells := 0, slots := 0, locals := 0 } : Room) "java/lang/AbstractStringBuilder" jdk_68_method_64_code 1 (some (.array .byte)) "getValue" false Z a0 own_EL n0 vm T h 0 0 := X
  refine X.aload_n i9_0 rfl rfl ?_
  refine X.getfield i9_1 (hw _ wd_65) Via.refl F_v fun T1 X1 => ?_
  exact X1.areturn i9_4 rfl rfl rfl (by decide) (by decide) (fun sf hsf => ⟨rfl, rfl⟩)
set_option maxRecDepth 65536 in
set_option maxHeartbeats 40000000 in
theorem c_al (l : Launch) {Z : State} {a0 : Array Value} {n0 : Nat} (hw : ∀ d ∈ tables_1, d.before a0 Z = true) (hEL : EW Z a0 own_EL) {zc : Int32} (hcs : Sta Z Z.heap "java/lang/String" "COMPACT_STRINGS" "Z" (.int zc)) (hcz : ¬ zc = 0) {fm : Value} (hfm : Sta Z Z.heap "jdk/internal/util/Preconditions" "SIOOBE_FORMATTER" "Ljava/util/function/BiFunction;" fm) (hfr : fm.isRef = true) (hst : l.stackTraces = true) (hKn : Z.vm.MethodsKnown) {us ss : Addr} (hus : Sta Z Z.heap "java/lang/Throwable" "UNASSIGNED_STACK" "[Ljava/lang/StackTraceElement;" (.ref us)) (hss : Sta Z Z.heap "java/lang/Throwable" "SUPPRESSED_SENTINEL" "Ljava/util/List;" (.ref ss)) {h : Heap} (hO : Old Z n0 h) (sb : Addr) (x : Int32) (E_sb : Exa Z h sb "java/lang/StringBuilder") (F_n : Fld Z h sb "java/lang/AbstractStringBuilder" "count" "I" (.int x)) :
    Con [] false l Z own_EL n0 [] (⟨"java/lang/AbstractStringBuilder", "length", "()I"⟩ : MethodName) jdk_68_method_6_code 1 (some .int) ({ frames := 0, cells := 0, slots := 0, locals := 0 } : Room) #[(.ref sb)] h (fun v h' sf => v = some (.int x) ∧ h = h') := by
  refine Con.intro (Ls := #[.val (.ref sb)]) pn10 hEL hO (fun m => by first | rfl | (simp [entryFrame, mkF, argsToLocals, Value.category]; done)) fun C vm T hl X hs => ?_
  have X : On C ({ frames := 0, cells := 0, slots := 0, locals := 0 } : Room) "java/lang/AbstractStringBuilder" jdk_68_method_6_code 1 (some .int) "length" false Z a0 own_EL n0 vm T h 0 0 := X
  refine X.aload_n i10_0 rfl rfl ?_
  refine X.getfield i10_1 (hw _ wd_90) Via.refl F_n fun T1 X1 => ?_
  exact X1.ireturn i10_4 (t := .int) rfl (by decide) rfl (by decide) (by decide) (fun sf hsf => ⟨rfl, rfl⟩)
set_option maxRecDepth 65536 in
set_option maxHeartbeats 40000000 in
theorem c_sl (l : Launch) {Z : State} {a0 : Array Value} {n0 : Nat} (hw : ∀ d ∈ tables_1, d.before a0 Z = true) (hEL : EW Z a0 own_EL) {zc : Int32} (hcs : Sta Z Z.heap "java/lang/String" "COMPACT_STRINGS" "Z" (.int zc)) (hcz : ¬ zc = 0) {fm : Value} (hfm : Sta Z Z.heap "jdk/internal/util/Preconditions" "SIOOBE_FORMATTER" "Ljava/util/function/BiFunction;" fm) (hfr : fm.isRef = true) (hst : l.stackTraces = true) (hKn : Z.vm.MethodsKnown) {us ss : Addr} (hus : Sta Z Z.heap "java/lang/Throwable" "UNASSIGNED_STACK" "[Ljava/lang/StackTraceElement;" (.ref us)) (hss : Sta Z Z.heap "java/lang/Throwable" "SUPPRESSED_SENTINEL" "Ljava/util/List;" (.ref ss)) {h : Heap} (hO : Old Z n0 h) (sb : Addr) (x : Int32) (E_sb : Exa Z h sb "java/lang/StringBuilder") (F_n : Fld Z h sb "java/lang/AbstractStringBuilder" "count" "I" (.int x)) :
    Con [] false l Z own_EL n0 [] (⟨"java/lang/StringBuilder", "length", "()I"⟩ : MethodName) jdk_67_method_93_code 1 (some .int) ({ frames := 1, cells := 0, slots := 0, locals := 12 } : Room) #[(.ref sb)] h (fun v h' sf => v = some (.int x) ∧ h = h') := by
  refine Con.intro (Ls := #[.val (.ref sb)]) pn11 hEL hO (fun m => by first | rfl | (simp [entryFrame, mkF, argsToLocals, Value.category]; done)) fun C vm T hl X hs => ?_
  have X : On C ({ frames := 1, cells := 0, slots := 0, locals := 12 } : Room) "java/lang/StringBuilder" jdk_67_method_93_code 1 (some .int) "length" false Z a0 own_EL n0 vm T h 0 0 := X
  refine X.aload_n i11_0 rfl rfl ?_
  refine X.callU hl (argsL := []) (a := sb) i11_1 (c_al l hw hEL hcs hcz hfm hfr hst hKn hus hss X.old sb x E_sb F_n) E_sb (hw _ wd_141) (sameOf (hw _ wd_136) (by decide) (hw _ wd_95) rfl) (hw _ wd_137) (hw _ wd_76) (by decide) (hw _ wd_61) (hw _ wd_142) sf_nil pd6 rfl rfl rfl (W := 0) rfl (by decide) (by decide) (k' := 0) rfl (n' := 0) rfl (by decide) (by decide) fun vm1 T1 h1 v1 X1 r1 Q1 => ?_
  obtain ⟨rfl, rfl⟩ := Q1
  show Go _ _ _ _ _ _ _ T1 4 #[.val (.ref sb)] [(.int x)]
  exact X1.ireturn i11_4 (t := .int) rfl (by decide) rfl (by decide) (by decide) (fun sf hsf => ⟨rfl, rfl⟩)
set_option maxRecDepth 65536 in
set_option maxHeartbeats 40000000 in
theorem c_il (l : Launch) {Z : State} {a0 : Array Value} {n0 : Nat} (hw : ∀ d ∈ tables_1, d.before a0 Z = true) (hEL : EW Z a0 own_EL) {zc : Int32} (hcs : Sta Z Z.heap "java/lang/String" "COMPACT_STRINGS" "Z" (.int zc)) (hcz : ¬ zc = 0) {fm : Value} (hfm : Sta Z Z.heap "jdk/internal/util/Preconditions" "SIOOBE_FORMATTER" "Ljava/util/function/BiFunction;" fm) (hfr : fm.isRef = true) (hst : l.stackTraces = true) (hKn : Z.vm.MethodsKnown) {us ss : Addr} (hus : Sta Z Z.heap "java/lang/Throwable" "UNASSIGNED_STACK" "[Ljava/lang/StackTraceElement;" (.ref us)) (hss : Sta Z Z.heap "java/lang/Throwable" "SUPPRESSED_SENTINEL" "Ljava/util/List;" (.ref ss)) {h : Heap} (hO : Old Z n0 h) (sb : Addr) (F_c : Fld Z h sb "java/lang/AbstractStringBuilder" "coder" "B" (.int (0 : Int32))) :
    Con [] false l Z own_EL n0 [] (⟨"java/lang/AbstractStringBuilder", "isLatin1", "()Z"⟩ : MethodName) jdk_68_method_68_code 1 (some .boolean) ({ frames := 0, cells := 0, slots := 0, locals := 0 } : Room) #[(.ref sb)] h (fun v h' sf => v = some (.int (1 : Int32)) ∧ h = h') := by
  refine Con.intro (Ls := #[.val (.ref sb)]) pn12 hEL hO (fun m => by first | rfl | (simp [entryFrame, mkF, argsToLocals, Value.category]; done)) fun C vm T hl X hs => ?_
  have X : On C ({ frames := 0, cells := 0, slots := 0, locals := 0 } : Room) "java/lang/AbstractStringBuilder" jdk_68_method_68_code 1 (some .boolean) "isLatin1" false Z a0 own_EL n0 vm T h 0 0 := X
  refine X.getstatic i12_0 (hw _ wd_64) Via.refl (hcs.ext X.ext0) fun T1 X1 => ?_
  refine X1.ifN i12_3 (XT.i0_eq_f hcz) ?_
  refine X1.aload_n i12_6 rfl rfl ?_
  refine X1.getfield i12_7 (hw _ wd_67) Via.refl F_c fun T2 X2 => ?_
  refine X2.ifN i12_10 (by decide) ?_
  refine X2.iconst i12_13 (z := (1 : Int32)) rfl ?_
  refine X2.goto i12_14 j14_4 ?_
  exact X2.ireturn i12_18 (t := .boolean) rfl (by decide) rfl (by decide) (by decide) (fun sf hsf => ⟨rfl, rfl⟩)
set_option maxRecDepth 65536 in
set_option maxHeartbeats 40000000 in
theorem c_min (l : Launch) {Z : State} {a0 : Array Value} {n0 : Nat} (hw : ∀ d ∈ tables_1, d.before a0 Z = true) (hEL : EW Z a0 own_EL) {zc : Int32} (hcs : Sta Z Z.heap "java/lang/String" "COMPACT_STRINGS" "Z" (.int zc)) (hcz : ¬ zc = 0) {fm : Value} (hfm : Sta Z Z.heap "jdk/internal/util/Preconditions" "SIOOBE_FORMATTER" "Ljava/util/function/BiFunction;" fm) (hfr : fm.isRef = true) (hst : l.stackTraces = true) (hKn : Z.vm.MethodsKnown) {us ss : Addr} (hus : Sta Z Z.heap "java/lang/Throwable" "UNASSIGNED_STACK" "[Ljava/lang/StackTraceElement;" (.ref us)) (hss : Sta Z Z.heap "java/lang/Throwable" "SUPPRESSED_SENTINEL" "Ljava/util/List;" (.ref ss)) {h : Heap} (hO : Old Z n0 h) (x : Int32) (y : Int32)  :
    Con [] false l Z own_EL n0 [] (⟨"java/lang/Math", "min", "(II)I"⟩ : MethodName) jdk_29_method_69_code 2 (some .int) ({ frames := 0, cells := 0, slots := 0, locals := 0 } : Room) #[(.int x), (.int y)] h (fun v h' sf => ∃ (r : Int32), v = some (.int r) ∧ h = h' ∧ ((r = x ∧ ¬ y < x) ∨ (r = y ∧ y < x))) := by
  refine Con.intro (Ls := #[.val (.int x), .val (.int y)]) pn13 hEL hO (fun m => by first | rfl | (simp [entryFrame, mkF, argsToLocals, Value.category]; done)) fun C vm T hl X hs => ?_
  have X : On C ({ frames := 0, cells := 0, slots := 0, locals := 0 } : Room) "java/lang/Math" jdk_29_method_69_code 2 (some .int) "min" false Z a0 own_EL n0 vm T h 0 0 := X
  refine X.iload_n i13_0 rfl ?_
  refine X.iload_n i13_1 rfl ?_
  by_cases hc : y < x
  · skip
    refine X.icY i13_2 j2_7 (XT.ii_gt_t hc) ?_
    refine X.iload_n i13_9 rfl ?_
    exact X.ireturn i13_10 (t := .int) rfl (by decide) rfl (by decide) (by decide) (fun sf hsf => ⟨y, rfl, rfl, Or.inr ⟨rfl, hc⟩⟩)
  · skip
    refine X.icN i13_2 (XT.ii_gt_f hc) ?_
    refine X.iload_n i13_5 rfl ?_
    refine X.goto i13_6 j6_4 ?_
    exact X.ireturn i13_10 (t := .int) rfl (by decide) rfl (by decide) (by decide) (fun sf hsf => ⟨x, rfl, rfl, Or.inl ⟨rfl, hc⟩⟩)
set_option maxRecDepth 65536 in
set_option maxHeartbeats 40000000 in
theorem c_chk (l : Launch) {Z : State} {a0 : Array Value} {n0 : Nat} (hw : ∀ d ∈ tables_1, d.before a0 Z = true) (hEL : EW Z a0 own_EL) {zc : Int32} (hcs : Sta Z Z.heap "java/lang/String" "COMPACT_STRINGS" "Z" (.int zc)) (hcz : ¬ zc = 0) {fm : Value} (hfm : Sta Z Z.heap "jdk/internal/util/Preconditions" "SIOOBE_FORMATTER" "Ljava/util/function/BiFunction;" fm) (hfr : fm.isRef = true) (hst : l.stackTraces = true) (hKn : Z.vm.MethodsKnown) {us ss : Addr} (hus : Sta Z Z.heap "java/lang/Throwable" "UNASSIGNED_STACK" "[Ljava/lang/StackTraceElement;" (.ref us)) (hss : Sta Z Z.heap "java/lang/Throwable" "SUPPRESSED_SENTINEL" "Ljava/util/List;" (.ref ss)) {h : Heap} (hO : Old Z n0 h) (m : Nat) (hm : m ≤ 4000) :
    Con [] false l Z own_EL n0 [] (⟨"java/util/Arrays", "checkLength", "(II)V"⟩ : MethodName) jdk_65_method_131_code 2 none ({ frames := 0, cells := 0, slots := 0, locals := 0 } : Room) #[(.int (0 : Int32)), (.int (Int32.ofNat m))] h (fun v h' sf => v = none ∧ h = h') := by
  refine Con.intro (Ls := #[.val (.int (0 : Int32)), .val (.int (Int32.ofNat m))]) pn14 hEL hO (fun m => by first | rfl | (simp [entryFrame, mkF, argsToLocals, Value.category]; done)) fun C vm T hl X hs => ?_
  have X : On C ({ frames := 0, cells := 0, slots := 0, locals := 0 } : Room) "java/util/Arrays" jdk_65_method_131_code 2 none "checkLength" false Z a0 own_EL n0 vm T h 0 0 := X
  refine X.iload_n i14_0 rfl ?_
  refine X.iload_n i14_1 rfl ?_
  refine X.icY i14_2 j2_35 (XT.ii_ge_t (own_ge0 hm)) ?_
  exact X.ret i14_37 rfl (by decide) (by decide) (fun sf hsf => ⟨rfl, rfl⟩)
set_option maxRecDepth 65536 in
set_option maxHeartbeats 40000000 in
theorem c_corb (l : Launch) {Z : State} {a0 : Array Value} {n0 : Nat} (hw : ∀ d ∈ tables_1, d.before a0 Z = true) (hEL : EW Z a0 own_EL) {zc : Int32} (hcs : Sta Z Z.heap "java/lang/String" "COMPACT_STRINGS" "Z" (.int zc)) (hcz : ¬ zc = 0) {fm : Value} (hfm : Sta Z Z.heap "jdk/internal/util/Preconditions" "SIOOBE_FORMATTER" "Ljava/util/function/BiFunction;" fm) (hfr : fm.isRef = true) (hst : l.stackTraces = true) (hKn : Z.vm.MethodsKnown) {us ss : Addr} (hus : Sta Z Z.heap "java/lang/Throwable" "UNASSIGNED_STACK" "[Ljava/lang/StackTraceElement;" (.ref us)) (hss : Sta Z Z.heap "java/lang/Throwable" "SUPPRESSED_SENTINEL" "Ljava/util/List;" (.ref ss)) {h : Heap} (hO : Old Z n0 h) (ar : Addr) (ka : ClassId) (bs : List Int32) (V_ar : Arv Z h ar ka .byte (16 : Int32) (bs.map own_f) (.int (0 : Int32))) (lb : bs.length < 16) :
    Con [] false l Z own_EL n0 [] (⟨"java/util/Arrays", "copyOfRangeByte", "([BII)[B"⟩ : MethodName) jdk_65_method_133_code 5 (some (.array .byte)) ({ frames := 1, cells := 1, slots := 16, locals := 18 } : Room) #[(.ref ar), (.int (0 : Int32)), (.int (Int32.ofNat bs.length))] h (fun v h' sf => ∃ (r : Addr) (kr : ClassId), v = some (.ref r) ∧ Ext h h' ∧ h.size ≤ r ∧ Arv Z h' r kr .byte (Int32.ofNat bs.length) (bs.map own_f) (.int (0 : Int32))) := by
  refine Con.intro (Ls := #[.val (.ref ar), .val (.int (0 : Int32)), .val (.int (Int32.ofNat bs.length)), .unset, .unset]) pn15 hEL hO (fun m => by first | rfl | (simp [entryFrame, mkF, argsToLocals, Value.category]; done)) fun C vm T hl X hs => ?_
  have X : On C ({ frames := 1, cells := 1, slots := 16, locals := 18 } : Room) "java/util/Arrays" jdk_65_method_133_code 5 (some (.array .byte)) "copyOfRangeByte" false Z a0 own_EL n0 vm T h 0 0 := X
  have lb4 : bs.length ≤ 4000 := by omega
  have lb16 : bs.length ≤ 16 := by omega
  refine X.iload_n i15_0 rfl ?_
  refine X.iload_n i15_1 rfl ?_
  refine X.callS hl (argsL := [(.int (0 : Int32)), (.int (Int32.ofNat bs.length))]) i15_2 (c_chk l hw hEL hcs hcz hfm hfr hst hKn hus hss X.old bs.length lb4) (hw _ wd_155) (hw _ wd_156) (hw _ wd_150) (hw _ wd_157) (by decide) sf_nil pd7 rfl rfl rfl (W := 0) rfl (by decide) (by decide) (k' := 0) rfl (n' := 0) rfl (by decide) (by decide) fun vm1 T1 h1 v1 X1 r1 Q1 => ?_
  obtain ⟨rfl, rfl⟩ := Q1
  show Go _ _ _ _ _ _ _ T1 5 #[.val (.ref ar), .val (.int (0 : Int32)), .val (.int (Int32.ofNat bs.length)), .unset, .unset] []
  refine X1.iload_n i15_5 rfl ?_
  refine X1.iload_n i15_6 rfl ?_
  refine X1.isub i15_7 (z := (Int32.ofNat bs.length)) (own_sub0 _) ?_
  refine X1.istore_n i15_8 (Ls' := #[.val (.ref ar), .val (.int (0 : Int32)), .val (.int (Int32.ofNat bs.length)), .val (.int (Int32.ofNat bs.length)), .unset]) rfl ?_
  refine X1.iload_n i15_9 rfl ?_
  refine X1.newarray i15_10 (ty := .byte) rfl (hw _ wd_25) (own_nn lb4) (cap := 16) (by rw [own_tn lb4]; exact lb16) (by decide) (k' := 1) rfl (n' := 16) rfl (by decide) (by decide) fun T2 h2 a2 c2 X2 E2 z2 g2 V2 Sf2 => ?_
  have V2 : Arv Z h2 a2 c2 .byte (Int32.ofNat bs.length) (([] : List Int32).map own_f) (.int (0 : Int32)) := V2
  refine X2.astore i15_12 rfl (Ls' := #[.val (.ref ar), .val (.int (0 : Int32)), .val (.int (Int32.ofNat bs.length)), .val (.int (Int32.ofNat bs.length)), .val (.ref a2)]) rfl ?_
  refine X2.aload_n i15_14 rfl rfl ?_
  refine X2.iload_n i15_15 rfl ?_
  refine X2.aload i15_16 rfl rfl ?_
  refine X2.iconst i15_18 (z := (0 : Int32)) rfl ?_
  refine X2.aload_n i15_19 rfl rfl ?_
  have V3 := (V_ar.ext E2)
  refine X2.arraylength i15_20 V3 ?_
  refine X2.iload_n i15_21 rfl ?_
  refine X2.isub i15_22 (z := (16 : Int32)) rfl ?_
  refine X2.iload_n i15_23 rfl ?_
  refine X2.callS hl (argsL := [(.int (16 : Int32)), (.int (Int32.ofNat bs.length))]) i15_24 (c_min l hw hEL hcs hcz hfm hfr hst hKn hus hss X2.old (16 : Int32) (Int32.ofNat bs.length) ) (hw _ wd_158) (hw _ wd_159) (hw _ wd_160) (hw _ wd_161) (by decide) sf_nil pd8 rfl rfl rfl (W := 4) rfl (by decide) (by decide) (k' := 1) rfl (n' := 16) rfl (by decide) (by decide) fun vm4 T4 h4 v4 X4 r4 Q4 => ?_
  obtain ⟨r_4, rfl, rfl, q4_1⟩ := Q4
  show Go _ _ _ _ _ _ _ T4 27 #[.val (.ref ar), .val (.int (0 : Int32)), .val (.int (Int32.ofNat bs.length)), .val (.int (Int32.ofNat bs.length)), .val (.ref a2)] [(.int r_4), (.int (0 : Int32)), (.ref a2), (.int (0 : Int32)), (.ref ar)]
  have hr0 := own_min16 lb16 q4_1
  subst hr0
  have e0 : Int32.ofNat ([] : List Int32).length = (0 : Int32) := by decide
  have Sf6 := (r4).safe (V2).lt Sf2
  have B5 := V2.pad (pad_rep (([] : List Int32).map own_f) (.int (0 : Int32)) bs.length)
  refine X4.arraycopy i15_27 (hw _ wd_162) (hw _ wd_116) (hw _ wd_114) (hw _ wd_115) V3 B5 rfl (by decide) (by decide) (own_nn lb4) (by rw [own_tn lb4]; show 0 + bs.length ≤ 16; omega) (by rw [own_tn lb4]; show 0 + bs.length ≤ bs.length; omega) rfl (by rw [own_tn lb4]; show 0 + bs.length ≤ _; simp) g2 Sf6 rfl (by decide) (W := 0) rfl (by decide) fun T5 h5 X5 K5 V5 => ?_
  have V5 : Arv Z h5 a2 c2 .byte (Int32.ofNat bs.length) (bs.map own_f) (.int (0 : Int32)) := by have q := own_cat [] bs (.int (0 : Int32)) (by simp) lb4 (own_us bs (.int (0 : Int32)) _ (own_tn lb4)); rw [e0] at q; rw [show bs = [] ++ bs from rfl, ← q]; exact V5
  refine X5.aload i15_30 rfl rfl ?_
  exact X5.areturn i15_32 rfl rfl rfl (by decide) (by decide) (fun sf hsf => ⟨a2, c2, rfl, (ext_keep E2 K5 (allS (Nat.le_trans (Nat.le_refl _) (Nat.le_of_eq z2)) all0)), (Nat.le_trans (Nat.le_refl _) (Nat.le_of_eq z2)), V5⟩)
set_option maxRecDepth 65536 in
set_option maxHeartbeats 40000000 in
theorem c_cor (l : Launch) {Z : State} {a0 : Array Value} {n0 : Nat} (hw : ∀ d ∈ tables_1, d.before a0 Z = true) (hEL : EW Z a0 own_EL) {zc : Int32} (hcs : Sta Z Z.heap "java/lang/String" "COMPACT_STRINGS" "Z" (.int zc)) (hcz : ¬ zc = 0) {fm : Value} (hfm : Sta Z Z.heap "jdk/internal/util/Preconditions" "SIOOBE_FORMATTER" "Ljava/util/function/BiFunction;" fm) (hfr : fm.isRef = true) (hst : l.stackTraces = true) (hKn : Z.vm.MethodsKnown) {us ss : Addr} (hus : Sta Z Z.heap "java/lang/Throwable" "UNASSIGNED_STACK" "[Ljava/lang/StackTraceElement;" (.ref us)) (hss : Sta Z Z.heap "java/lang/Throwable" "SUPPRESSED_SENTINEL" "Ljava/util/List;" (.ref ss)) {h : Heap} (hO : Old Z n0 h) (ar : Addr) (ka : ClassId) (bs : List Int32) (V_ar : Arv Z h ar ka .byte (16 : Int32) (bs.map own_f) (.int (0 : Int32))) (lb : bs.length < 16) :
    Con [] false l Z own_EL n0 [] (⟨"java/util/Arrays", "copyOfRange", "([BII)[B"⟩ : MethodName) jdk_65_method_132_code 3 (some (.array .byte)) ({ frames := 2, cells := 1, slots := 16, locals := 34 } : Room) #[(.ref ar), (.int (0 : Int32)), (.int (Int32.ofNat bs.length))] h (fun v h' sf => ∃ (r : Addr) (kr : ClassId), v = some (.ref r) ∧ Ext h h' ∧ h.size ≤ r ∧ Arv Z h' r kr .byte (Int32.ofNat bs.length) (bs.map own_f) (.int (0 : Int32))) := by
  refine Con.intro (Ls := #[.val (.ref ar), .val (.int (0 : Int32)), .val (.int (Int32.ofNat bs.length))]) pn16 hEL hO (fun m => by first | rfl | (simp [entryFrame, mkF, argsToLocals, Value.category]; done)) fun C vm T hl X hs => ?_
  have X : On C ({ frames := 2, cells := 1, slots := 16, locals := 34 } : Room) "java/util/Arrays" jdk_65_method_132_code 3 (some (.array .byte)) "copyOfRange" false Z a0 own_EL n0 vm T h 0 0 := X
  refine X.iload_n i16_0 rfl ?_
  refine X.ifN i16_1 (by decide) ?_
  refine X.iload_n i16_4 rfl ?_
  refine X.aload_n i16_5 rfl rfl ?_
  refine X.arraylength i16_6 V_ar ?_
  refine X.icN i16_7 (XT.ii_eq_f (own_ne16 lb)) ?_
  refine X.aload_n i16_10 rfl rfl ?_
  refine X.iload_n i16_11 rfl ?_
  refine X.iload_n i16_12 rfl ?_
  refine X.callS hl (argsL := [(.ref ar), (.int (0 : Int32)), (.int (Int32.ofNat bs.length))]) i16_13 (c_corb l hw hEL hcs hcz hfm hfr hst hKn hus hss X.old ar ka bs V_ar lb) (hw _ wd_152) (hw _ wd_153) (hw _ wd_150) (hw _ wd_154) (by decide) sf_nil pd9 rfl rfl rfl (W := 0) rfl (by decide) (by decide) (k' := 1) rfl (n' := 16) rfl (by decide) (by decide) fun vm1 T1 h1 v1 X1 r1 Q1 => ?_
  obtain ⟨r_1, kr_1, rfl, q1_0, q1_1, q1_2⟩ := Q1
  have g2 := Nat.le_trans X.n0le q1_1
  show Go _ _ _ _ _ _ _ T1 16 #[.val (.ref ar), .val (.int (0 : Int32)), .val (.int (Int32.ofNat bs.length))] [(.ref r_1)]
  exact X1.areturn i16_16 rfl rfl rfl (by decide) (by decide) (fun sf hsf => ⟨r_1, kr_1, rfl, q1_0, q1_1, q1_2⟩)
set_option maxRecDepth 65536 in
set_option maxHeartbeats 40000000 in
theorem c_si2 (l : Launch) {Z : State} {a0 : Array Value} {n0 : Nat} (hw : ∀ d ∈ tables_1, d.before a0 Z = true) (hEL : EW Z a0 own_EL) {zc : Int32} (hcs : Sta Z Z.heap "java/lang/String" "COMPACT_STRINGS" "Z" (.int zc)) (hcz : ¬ zc = 0) {fm : Value} (hfm : Sta Z Z.heap "jdk/internal/util/Preconditions" "SIOOBE_FORMATTER" "Ljava/util/function/BiFunction;" fm) (hfr : fm.isRef = true) (hst : l.stackTraces = true) (hKn : Z.vm.MethodsKnown) {us ss : Addr} (hus : Sta Z Z.heap "java/lang/Throwable" "UNASSIGNED_STACK" "[Ljava/lang/StackTraceElement;" (.ref us)) (hss : Sta Z Z.heap "java/lang/Throwable" "SUPPRESSED_SENTINEL" "Ljava/util/List;" (.ref ss)) {h : Heap} (hO : Old Z n0 h) (x : Addr) (sb : Addr) (ar : Addr) (ka : ClassId) (bs : List Int32) (E_x : Exa Z h x "java/lang/String") (g_x : n0 ≤ x) (F_xv : Fld Z h x "java/lang/String" "value" "[B" .null) (F_xc : Fld Z h x "java/lang/String" "coder" "B" (.int (0 : Int32))) (E_sb : Exa Z h sb "java/lang/StringBuilder") (F_v : Fld Z h sb "java/lang/AbstractStringBuilder" "value" "[B" (.ref ar)) (F_c : Fld Z h sb "java/lang/AbstractStringBuilder" "coder" "B" (.int (0 : Int32))) (F_n : Fld Z h sb "java/lang/AbstractStringBuilder" "count" "I" (.int (Int32.ofNat bs.length))) (V_ar : Arv Z h ar ka .byte (16 : Int32) (bs.map own_f) (.int (0 : Int32))) (lb : bs.length < 16) (hb : ∀ c ∈ bs, ¬ c < 0 ∧ ¬ (255 : Int32) < c) (nex : sb ≠ x) (ney : ar ≠ x) :
    Con [] false l Z own_EL n0 [x] (⟨"java/lang/String", "<init>", "(Ljava/lang/AbstractStringBuilder;Ljava/lang/Void;)V"⟩ : MethodName) jdk_42_method_150_code 5 none ({ frames := 3, cells := 1, slots := 16, locals := 49 } : Room) #[(.ref x), (.ref sb), .null] h (fun v h' sf => ∃ (t : Addr) (kt : ClassId), v = none ∧ Keep h h' [x] ∧ Str Z h' x t kt bs ∧ h.size ≤ t) := by
  refine Con.intro (Ls := #[.val (.ref x), .val (.ref sb), .val .null, .unset, .unset]) pn17 hEL hO (fun m => by first | rfl | (simp [entryFrame, mkF, argsToLocals, Value.category]; done)) fun C vm T hl X hs => ?_
  have X : On C ({ frames := 3, cells := 1, slots := 16, locals := 49 } : Room) "java/lang/String" jdk_42_method_150_code 5 none "<init>" false Z a0 own_EL n0 vm T h 0 0 := X
  have sf_x := hs x (List.mem_of_getElem? (i := 0) rfl)
  refine X.aload_n i17_0 rfl rfl ?_
  refine X.initO i17_1 (hw _ wd_21) (hw _ wd_22) (hw _ wd_23) rfl (by decide) (W := 0) rfl (by decide) fun T1 X1 => ?_
  refine X1.aload_n i17_4 rfl rfl ?_
  refine X1.callV hl (argsL := []) (a := sb) i17_5 (c_gv l hw hEL hcs hcz hfm hfr hst hKn hus hss X1.old sb ar F_v) E_sb (hw _ wd_130) (hw _ wd_131) (hw _ wd_133) (nfSel X1.zw (hw _ wd_133)) (hw _ wd_132) (hw _ wd_61) (hw _ wd_134) (by decide) sf_nil pd10 rfl rfl rfl (W := 0) rfl (by decide) (by decide) (k' := 0) rfl (n' := 0) rfl (by decide) (by decide) fun vm2 T2 h2 v2 X2 r2 Q2 => ?_
  obtain ⟨rfl, rfl⟩ := Q2
  show Go _ _ _ _ _ _ _ T2 8 #[.val (.ref x), .val (.ref sb), .val .null, .unset, .unset] [(.ref ar)]
  refine X2.astore_n i17_8 rfl (Ls' := #[.val (.ref x), .val (.ref sb), .val .null, .val (.ref ar), .unset]) rfl ?_
  refine X2.aload_n i17_9 rfl rfl ?_
  refine X2.callV hl (argsL := []) (a := sb) i17_10 (c_sl l hw hEL hcs hcz hfm hfr hst hKn hus hss X2.old sb (Int32.ofNat bs.length) E_sb F_n) E_sb (hw _ wd_135) (hw _ wd_136) (hw _ wd_138) (nfOf X2.zw (hw _ wd_95) rfl) (hw _ wd_139) (hw _ wd_53) (hw _ wd_140) (by decide) sf_nil pd6 rfl rfl rfl (W := 0) rfl (by decide) (by decide) (k' := 0) rfl (n' := 0) rfl (by decide) (by decide) fun vm3 T3 h3 v3 X3 r3 Q3 => ?_
  obtain ⟨rfl, rfl⟩ := Q3
  show Go _ _ _ _ _ _ _ T3 13 #[.val (.ref x), .val (.ref sb), .val .null, .val (.ref ar), .unset] [(.int (Int32.ofNat bs.length))]
  refine X3.istore i17_13 (Ls' := #[.val (.ref x), .val (.ref sb), .val .null, .val (.ref ar), .val (.int (Int32.ofNat bs.length))]) rfl ?_
  refine X3.aload_n i17_15 rfl rfl ?_
  refine X3.callV hl (argsL := []) (a := sb) i17_16 (c_il l hw hEL hcs hcz hfm hfr hst hKn hus hss X3.old sb F_c) E_sb (hw _ wd_143) (hw _ wd_144) (hw _ wd_146) (nfSel X3.zw (hw _ wd_146)) (hw _ wd_145) (hw _ wd_61) (hw _ wd_147) (by decide) sf_nil pd11 rfl rfl rfl (W := 0) rfl (by decide) (by decide) (k' := 0) rfl (n' := 0) rfl (by decide) (by decide) fun vm4 T4 h4 v4 X4 r4 Q4 => ?_
  obtain ⟨rfl, rfl⟩ := Q4
  show Go _ _ _ _ _ _ _ T4 19 #[.val (.ref x), .val (.ref sb), .val .null, .val (.ref ar), .val (.int (Int32.ofNat bs.length))] [(.int (1 : Int32))]
  refine X4.ifN i17_19 (by decide) ?_
  refine X4.aload_n i17_22 rfl rfl ?_
  refine X4.iconst i17_23 (z := (0 : Int32)) rfl ?_
  have Sf6 := (((r2).trans r3).trans r4).safe (E_x).lt sf_x
  refine X4.putfield i17_24 (hw _ wd_31) Via.refl F_xc E_x (Or.inr ⟨(hw _ wd_27), rfl, rfl⟩) (hw _ wd_11) (ty := .byte) (by decide) rfl rfl g_x Sf6 fun T5 h5 X5 W5 => ?_
  refine X5.aload_n i17_27 rfl rfl ?_
  refine X5.aload_n i17_28 rfl rfl ?_
  refine X5.iconst i17_29 (z := (0 : Int32)) rfl ?_
  refine X5.iload i17_30 rfl ?_
  have V7 := (V_ar.other W5 ney)
  refine X5.callS hl (argsL := [(.ref ar), (.int (0 : Int32)), (.int (Int32.ofNat bs.length))]) i17_32 (c_cor l hw hEL hcs hcz hfm hfr hst hKn hus hss X5.old ar ka bs V7 lb) (hw _ wd_148) (hw _ wd_149) (hw _ wd_150) (hw _ wd_151) (by decide) sf_nil pd9 rfl rfl rfl (W := 1) rfl (by decide) (by decide) (k' := 1) rfl (n' := 16) rfl (by decide) (by decide) fun vm8 T8 h8 v8 X8 r8 Q8 => ?_
  obtain ⟨r_8, kr_8, rfl, q8_0, q8_1, q8_2⟩ := Q8
  have g9 := Nat.le_trans X5.n0le q8_1
  show Go _ _ _ _ _ _ _ T8 35 #[.val (.ref x), .val (.ref sb), .val .null, .val (.ref ar), .val (.int (Int32.ofNat bs.length))] [(.ref r_8), (.ref x)]
  have F10 := ((F_xv.other W5 (Or.inr (slot_ne (Or.inr (hw _ wd_26)) (Or.inr (hw _ wd_27)) (by decide) (t := (.array .byte)) (t' := .byte) (by decide) (by decide)))).ext q8_0)
  have E11 := ((E_x.wr W5).ext q8_0)
  have Sf13 := (((CHr.wr W5 Sf6 X4.chv)).trans r8).safe (Nat.lt_of_lt_of_le (Nat.lt_of_lt_of_le (Nat.lt_of_lt_of_le (F_xv).lt (Nat.le_refl _)) (Nat.le_refl _)) (Nat.le_refl _)) Sf6
  refine X8.putfield i17_35 (hw _ wd_30) Via.refl F10 E11 (Or.inr ⟨(hw _ wd_26), rfl, rfl⟩) (hw _ wd_11) (ty := (.array .byte)) (by decide) rfl rfl g_x Sf13 fun T12 h12 X12 W12 => ?_
  refine X12.goto i17_38 j38_59 ?_
  have E14 := (E11.wr W12)
  have F15 := (((F_xc.same W5).ext q8_0).other W12 (Or.inr (slot_ne (Or.inr (hw _ wd_27)) (Or.inr (hw _ wd_26)) (by decide) (t := .byte) (t' := (.array .byte)) (by decide) (by decide))))
  have V16 := (q8_2.other W12 (Nat.ne_of_gt (Nat.lt_of_lt_of_le ((F_xc.same W5)).lt q8_1)))
  exact X12.ret i17_97 rfl (by decide) (by decide) (fun sf hsf => ⟨r_8, kr_8, rfl, ((((Keep.refl _ [x]).wr W5 (Or.inl (List.mem_of_getElem? (i := 0) rfl))).ext q8_0).wr W12 (Or.inl (List.mem_of_getElem? (i := 0) rfl))), ⟨E14, (F10.same W12), F15, V16, hb⟩, (Nat.le_trans (Nat.le_refl _) (Nat.le_trans (Nat.le_refl _) (Nat.le_trans (Nat.le_refl _) (Nat.le_trans (Keep.of_wr W5).1 q8_1))))⟩)
set_option maxRecDepth 65536 in
set_option maxHeartbeats 40000000 in
theorem c_si1 (l : Launch) {Z : State} {a0 : Array Value} {n0 : Nat} (hw : ∀ d ∈ tables_1, d.before a0 Z = true) (hEL : EW Z a0 own_EL) {zc : Int32} (hcs : Sta Z Z.heap "java/lang/String" "COMPACT_STRINGS" "Z" (.int zc)) (hcz : ¬ zc = 0) {fm : Value} (hfm : Sta Z Z.heap "jdk/internal/util/Preconditions" "SIOOBE_FORMATTER" "Ljava/util/function/BiFunction;" fm) (hfr : fm.isRef = true) (hst : l.stackTraces = true) (hKn : Z.vm.MethodsKnown) {us ss : Addr} (hus : Sta Z Z.heap "java/lang/Throwable" "UNASSIGNED_STACK" "[Ljava/lang/StackTraceElement;" (.ref us)) (hss : Sta Z Z.heap "java/lang/Throwable" "SUPPRESSED_SENTINEL" "Ljava/util/List;" (.ref ss)) {h : Heap} (hO : Old Z n0 h) (x : Addr) (sb : Addr) (ar : Addr) (ka : ClassId) (bs : List Int32) (E_x : Exa Z h x "java/lang/String") (g_x : n0 ≤ x) (F_xv : Fld Z h x "java/lang/String" "value" "[B" .null) (F_xc : Fld Z h x "java/lang/String" "coder" "B" (.int (0 : Int32))) (E_sb : Exa Z h sb "java/lang/StringBuilder") (F_v : Fld Z h sb "java/lang/AbstractStringBuilder" "value" "[B" (.ref ar)) (F_c : Fld Z h sb "java/lang/AbstractStringBuilder" "coder" "B" (.int (0 : Int32))) (F_n : Fld Z h sb "java/lang/AbstractStringBuilder" "count" "I" (.int (Int32.ofNat bs.length))) (V_ar : Arv Z h ar ka .byte (16 : Int32) (bs.map own_f) (.int (0 : Int32))) (lb : bs.length < 16) (hb : ∀ c ∈ bs, ¬ c < 0 ∧ ¬ (255 : Int32) < c) (nex : sb ≠ x) (ney : ar ≠ x) :
    Con [] false l Z own_EL n0 [x] (⟨"java/lang/String", "<init>", "(Ljava/lang/StringBuilder;)V"⟩ : MethodName) jdk_42_method_53_code 2 none ({ frames := 4, cells := 1, slots := 16, locals := 65 } : Room) #[(.ref x), (.ref sb)] h (fun v h' sf => ∃ (t : Addr) (kt : ClassId), v = none ∧ Keep h h' [x] ∧ Str Z h' x t kt bs ∧ h.size ≤ t) := by
  refine Con.intro (Ls := #[.val (.ref x), .val (.ref sb)]) pn18 hEL hO (fun m => by first | rfl | (simp [entryFrame, mkF, argsToLocals, Value.category]; done)) fun C vm T hl X hs => ?_
  have X : On C ({ frames := 4, cells := 1, slots := 16, locals := 65 } : Room) "java/lang/String" jdk_42_method_53_code 2 none "<init>" false Z a0 own_EL n0 vm T h 0 0 := X
  have sf_x := hs x (List.mem_of_getElem? (i := 0) rfl)
  refine X.aload_n i18_0 rfl rfl ?_
  refine X.aload_n i18_1 rfl rfl ?_
  refine X.aconst_null i18_2 ?_
  refine X.callI hl (argsL := [(.ref sb), .null]) (a := x) i18_3 (c_si2 l hw hEL hcs hcz hfm hfr hst hKn hus hss X.old x sb ar ka bs E_x g_x F_xv F_xc E_sb F_v F_c F_n V_ar lb hb nex ney) (hw _ wd_127) (hw _ wd_128) (hw _ wd_12) (hw _ wd_129) rfl (by decide) (sf_cons ⟨sf_x, (E_x).lt⟩ sf_nil) pd12 rfl rfl rfl (W := 0) rfl (by decide) (by decide) (k' := 1) rfl (n' := 16) rfl (by decide) (by decide) fun vm1 T1 h1 v1 X1 r1 Q1 => ?_
  obtain ⟨t_1, kt_1, rfl, q1_0, q1_1, q1_2⟩ := Q1
  have g2 := Nat.le_trans X.n0le q1_2
  show Go _ _ _ _ _ _ _ T1 6 #[.val (.ref x), .val (.ref sb)] []
  exact X1.ret i18_6 rfl (by decide) (by decide) (fun sf hsf => ⟨t_1, kt_1, rfl, ((Keep.refl _ [x]).trans q1_0 (allS (Or.inl (List.mem_of_getElem? (i := 0) rfl)) all0)), q1_1, q1_2⟩)
set_option maxRecDepth 65536 in
set_option maxHeartbeats 40000000 in
theorem c_tos (l : Launch) {Z : State} {a0 : Array Value} {n0 : Nat} (hw : ∀ d ∈ tables_1, d.before a0 Z = true) (hEL : EW Z a0 own_EL) {zc : Int32} (hcs : Sta Z Z.heap "java/lang/String" "COMPACT_STRINGS" "Z" (.int zc)) (hcz : ¬ zc = 0) {fm : Value} (hfm : Sta Z Z.heap "jdk/internal/util/Preconditions" "SIOOBE_FORMATTER" "Ljava/util/function/BiFunction;" fm) (hfr : fm.isRef = true) (hst : l.stackTraces = true) (hKn : Z.vm.MethodsKnown) {us ss : Addr} (hus : Sta Z Z.heap "java/lang/Throwable" "UNASSIGNED_STACK" "[Ljava/lang/StackTraceElement;" (.ref us)) (hss : Sta Z Z.heap "java/lang/Throwable" "SUPPRESSED_SENTINEL" "Ljava/util/List;" (.ref ss)) {h : Heap} (hO : Old Z n0 h) (sb : Addr) (ar : Addr) (ka : ClassId) (bs : List Int32) (E_sb : Exa Z h sb "java/lang/StringBuilder") (F_v : Fld Z h sb "java/lang/AbstractStringBuilder" "value" "[B" (.ref ar)) (F_c : Fld Z h sb "java/lang/AbstractStringBuilder" "coder" "B" (.int (0 : Int32))) (F_n : Fld Z h sb "java/lang/AbstractStringBuilder" "count" "I" (.int (Int32.ofNat bs.length))) (V_ar : Arv Z h ar ka .byte (16 : Int32) (bs.map own_f) (.int (0 : Int32))) (lb : bs.length < 16) (hb : ∀ c ∈ bs, ¬ c < 0 ∧ ¬ (255 : Int32) < c) :
    Con [] false l Z own_EL n0 [] (⟨"java/lang/StringBuilder", "toString", "()Ljava/lang/String;"⟩ : MethodName) jdk_67_method_42_code 1 (some (.object "java/lang/String")) ({ frames := 5, cells := 2, slots := 20, locals := 79 } : Room) #[(.ref sb)] h (fun v h' sf => ∃ (x : Addr) (t : Addr) (kt : ClassId), v = some (.ref x) ∧ Ext h h' ∧ h.size ≤ x ∧ Str Z h' x t kt bs ∧ h.size ≤ t) := by
  refine Con.intro (Ls := #[.val (.ref sb)]) pn19 hEL hO (fun m => by first | rfl | (simp [entryFrame, mkF, argsToLocals, Value.category]; done)) fun C vm T hl X hs => ?_
  have X : On C ({ frames := 5, cells := 2, slots := 20, locals := 79 } : Room) "java/lang/StringBuilder" jdk_67_method_42_code 1 (some (.object "java/lang/String")) "toString" false Z a0 own_EL n0 vm T h 0 0 := X
  refine X.new i19_0 (hw _ wd_123) (hw _ wd_11) (hw _ wd_12) (k' := 1) rfl (n' := 4) rfl (by decide) (by decide) fun T1 h1 a1 X1 E1 z1 g1 A1 D1 U1 Sf1 => ?_
  refine X1.dup i19_3 rfl ?_
  refine X1.aload_n i19_4 rfl rfl ?_
  have F2 : Fld Z h1 a1 "java/lang/String" "value" "[B" .null := D1 (Or.inr (hw _ wd_26)) (ty := (.array .byte)) (by decide)
  have F3 : Fld Z h1 a1 "java/lang/String" "coder" "B" (.int (0 : Int32)) := D1 (Or.inr (hw _ wd_27)) (ty := .byte) (by decide)
  have E4 := (E_sb.ext E1)
  have F5 := (F_v.ext E1)
  have F6 := (F_c.ext E1)
  have F7 := (F_n.ext E1)
  have V8 := (V_ar.ext E1)
  refine X1.callI hl (argsL := [(.ref sb)]) (a := a1) i19_5 (c_si1 l hw hEL hcs hcz hfm hfr hst hKn hus hss X1.old a1 sb ar ka bs A1 g1 F2 F3 E4 F5 F6 F7 V8 lb hb (Nat.ne_of_lt (Nat.lt_of_lt_of_le (E_sb).lt (Nat.le_of_eq z1))) (Nat.ne_of_lt (Nat.lt_of_lt_of_le (V_ar).lt (Nat.le_of_eq z1)))) (hw _ wd_124) (hw _ wd_125) (hw _ wd_12) (hw _ wd_126) rfl (by decide) (sf_cons ⟨Sf1, (A1).lt⟩ sf_nil) pd13 rfl rfl rfl (W := 1) rfl (by decide) (by decide) (k' := 2) rfl (n' := 20) rfl (by decide) (by decide) fun vm9 T9 h9 v9 X9 r9 Q9 => ?_
  obtain ⟨t_9, kt_9, rfl, q9_0, q9_1, q9_2⟩ := Q9
  have g10 := Nat.le_trans X1.n0le q9_2
  show Go _ _ _ _ _ _ _ T9 8 #[.val (.ref sb)] [(.ref a1)]
  exact X9.areturn i19_8 rfl rfl rfl (by decide) (by decide) (fun sf hsf => ⟨a1, t_9, kt_9, rfl, (ext_keep E1 q9_0 (allS (Nat.le_of_eq z1) all0)), (Nat.le_of_eq z1), q9_1, (Nat.le_trans E1.1 q9_2)⟩)
set_option maxRecDepth 65536 in
set_option maxHeartbeats 40000000 in
theorem c_se4 (l : Launch) {Z : State} {a0 : Array Value} {n0 : Nat} (hw : ∀ d ∈ tables_1, d.before a0 Z = true) (hEL : EW Z a0 own_EL) {zc : Int32} (hcs : Sta Z Z.heap "java/lang/String" "COMPACT_STRINGS" "Z" (.int zc)) (hcz : ¬ zc = 0) {fm : Value} (hfm : Sta Z Z.heap "jdk/internal/util/Preconditions" "SIOOBE_FORMATTER" "Ljava/util/function/BiFunction;" fm) (hfr : fm.isRef = true) (hst : l.stackTraces = true) (hKn : Z.vm.MethodsKnown) {us ss : Addr} (hus : Sta Z Z.heap "java/lang/Throwable" "UNASSIGNED_STACK" "[Ljava/lang/StackTraceElement;" (.ref us)) (hss : Sta Z Z.heap "java/lang/Throwable" "SUPPRESSED_SENTINEL" "Ljava/util/List;" (.ref ss)) {h : Heap} (hO : Old Z n0 h) (x : Addr) (c0 : Addr) (E_x : Exa Z h x "java/lang/String") (g_x : n0 ≤ x) (F_v : Fld Z h x "java/lang/String" "value" "[B" .null) (F_c : Fld Z h x "java/lang/String" "coder" "B" (.int (0 : Int32))) :
    Con [] false l Z own_EL n0 [x] (⟨"java/lang/String", "<init>", "([CIILjava/lang/Void;)V"⟩ : MethodName) jdk_42_method_149_code 6 none ({ frames := 1, cells := 4, slots := 8, locals := 12 } : Room) #[(.ref x), (.ref c0), (.int (0 : Int32)), (.int (0 : Int32)), .null] h (fun v h' sf => ∃ (t : Addr) (kb : ClassId), v = none ∧ Keep h h' [x] ∧ Str Z h' x t kb ([] : List Int32)) := by
  refine Con.intro (Ls := #[.val (.ref x), .val (.ref c0), .val (.int (0 : Int32)), .val (.int (0 : Int32)), .val .null, .unset]) pn20 hEL hO (fun m => by first | rfl | (simp [entryFrame, mkF, argsToLocals, Value.category]; done)) fun C vm T hl X hs => ?_
  have X : On C ({ frames := 1, cells := 4, slots := 8, locals := 12 } : Room) "java/lang/String" jdk_42_method_149_code 6 none "<init>" false Z a0 own_EL n0 vm T h 0 0 := X
  have sf_x := hs x (List.mem_of_getElem? (i := 0) rfl)
  refine X.aload_n i20_0 rfl rfl ?_
  refine X.initO i20_1 (hw _ wd_21) (hw _ wd_22) (hw _ wd_23) rfl (by decide) (W := 0) rfl (by decide) fun T1 X1 => ?_
  refine X1.iload_n i20_4 rfl ?_
  refine X1.ifN i20_5 (by decide) ?_
  refine X1.aload_n i20_8 rfl rfl ?_
  refine X1.ldcS rfl (cs := ([] : List Int32)) i20_9 (hw _ wd_24) (own_wS hw) (List.mem_of_getElem? (i := 1) rfl) lt0_a lt0_b lt0_c (Nat.le_of_ble_eq_true rfl) (nn := 0) (Nat.le_of_eq lt0_d) (by decide) (k' := 2) rfl (n' := 4) rfl (by decide) (by decide) fun vm2 T2 h2 a2 t2 b2 X2 E2 r2 S2 ne2 => ?_
  have Sf3 := (r2).safe (E_x).lt sf_x
  refine X2.getfield i20_11 (hw _ wd_30) Via.refl S2.2.1 fun T4 X4 => ?_
  have F5 := (F_v.ext E2)
  have E6 := (E_x.ext E2)
  refine X4.putfield i20_14 (hw _ wd_30) Via.refl F5 E6 (Or.inr ⟨(hw _ wd_26), rfl, rfl⟩) (hw _ wd_11) (ty := (.array .byte)) (by decide) rfl rfl g_x Sf3 fun T7 h7 X7 W7 => ?_
  refine X7.aload_n i20_17 rfl rfl ?_
  refine X7.ldcS rfl (cs := ([] : List Int32)) i20_18 (hw _ wd_24) (own_wS hw) (List.mem_of_getElem? (i := 1) rfl) lt0_a lt0_b lt0_c (Nat.le_of_ble_eq_true rfl) (nn := 0) (Nat.le_of_eq lt0_d) (by decide) (k' := 4) rfl (n' := 8) rfl (by decide) (by decide) fun vm8 T8 h8 a8 t8 b8 X8 E8 r8 S8 ne8 => ?_
  refine X8.getfield i20_20 (hw _ wd_31) Via.refl S8.2.2.1 fun T9 X9 => ?_
  have F10 := (((F_c.ext E2).other W7 (Or.inr (slot_ne (Or.inr (hw _ wd_27)) (Or.inr (hw _ wd_26)) (by decide) (t := .byte) (t' := (.array .byte)) (by decide) (by decide)))).ext E8)
  have E11 := ((E6.wr W7).ext E8)
  have Sf13 := (((CHr.wr W7 Sf3 X4.chv)).trans r8).safe (E6).lt Sf3
  refine X9.putfield i20_23 (hw _ wd_31) Via.refl F10 E11 (Or.inr ⟨(hw _ wd_27), rfl, rfl⟩) (hw _ wd_11) (ty := .byte) (by decide) rfl rfl g_x Sf13 fun T12 h12 X12 W12 => ?_
  have E14 := (E11.wr W12)
  have F15 := (((F5.same W7).ext E8).other W12 (Or.inr (slot_ne (Or.inr (hw _ wd_26)) (Or.inr (hw _ wd_27)) (by decide) (t := (.array .byte)) (t' := .byte) (by decide) (by decide))))
  have V16 := (((S2.2.2.2.1.other W7 (Ne.symm (ne2 x Sf3).2)).ext E8).other W12 (Ne.symm (ne2 x Sf3).2))
  exact X12.ret i20_26 rfl (by decide) (by decide) (fun sf hsf => ⟨t2, b2, rfl, (((((Keep.refl _ [x]).ext E2).wr W7 (Or.inl (List.mem_of_getElem? (i := 0) rfl))).ext E8).wr W12 (Or.inl (List.mem_of_getElem? (i := 0) rfl))), ⟨E14, F15, (F10.same W12), V16, own_all0⟩⟩)
set_option maxRecDepth 65536 in
set_option maxHeartbeats 40000000 in
theorem c_se1 (l : Launch) {Z : State} {a0 : Array Value} {n0 : Nat} (hw : ∀ d ∈ tables_1, d.before a0 Z = true) (hEL : EW Z a0 own_EL) {zc : Int32} (hcs : Sta Z Z.heap "java/lang/String" "COMPACT_STRINGS" "Z" (.int zc)) (hcz : ¬ zc = 0) {fm : Value} (hfm : Sta Z Z.heap "jdk/internal/util/Preconditions" "SIOOBE_FORMATTER" "Ljava/util/function/BiFunction;" fm) (hfr : fm.isRef = true) (hst : l.stackTraces = true) (hKn : Z.vm.MethodsKnown) {us ss : Addr} (hus : Sta Z Z.heap "java/lang/Throwable" "UNASSIGNED_STACK" "[Ljava/lang/StackTraceElement;" (.ref us)) (hss : Sta Z Z.heap "java/lang/Throwable" "SUPPRESSED_SENTINEL" "Ljava/util/List;" (.ref ss)) {h : Heap} (hO : Old Z n0 h) (x : Addr) (c0 : Addr) (kc : ClassId) (d0 : Value) (E_x : Exa Z h x "java/lang/String") (g_x : n0 ≤ x) (F_v : Fld Z h x "java/lang/String" "value" "[B" .null) (F_c : Fld Z h x "java/lang/String" "coder" "B" (.int (0 : Int32))) (V_c : Arv Z h c0 kc .char (0 : Int32) [] d0) :
    Con [] false l Z own_EL n0 [x] (⟨"java/lang/String", "<init>", "([C)V"⟩ : MethodName) jdk_42_method_3_code 2 none ({ frames := 2, cells := 4, slots := 8, locals := 29 } : Room) #[(.ref x), (.ref c0)] h (fun v h' sf => ∃ (t : Addr) (kb : ClassId), v = none ∧ Keep h h' [x] ∧ Str Z h' x t kb ([] : List Int32)) := by
  refine Con.intro (Ls := #[.val (.ref x), .val (.ref c0)]) pn21 hEL hO (fun m => by first | rfl | (simp [entryFrame, mkF, argsToLocals, Value.category]; done)) fun C vm T hl X hs => ?_
  have X : On C ({ frames := 2, cells := 4, slots := 8, locals := 29 } : Room) "java/lang/String" jdk_42_method_3_code 2 none "<init>" false Z a0 own_EL n0 vm T h 0 0 := X
  have sf_x := hs x (List.mem_of_getElem? (i := 0) rfl)
  refine X.aload_n i21_0 rfl rfl ?_
  refine X.aload_n i21_1 rfl rfl ?_
  refine X.iconst i21_2 (z := (0 : Int32)) rfl ?_
  refine X.aload_n i21_3 rfl rfl ?_
  refine X.arraylength i21_4 V_c ?_
  refine X.aconst_null i21_5 ?_
  refine X.callI hl (argsL := [(.ref c0), (.int (0 : Int32)), (.int (0 : Int32)), .null]) (a := x) i21_6 (c_se4 l hw hEL hcs hcz hfm hfr hst hKn hus hss X.old x c0 E_x g_x F_v F_c) (hw _ wd_17) (hw _ wd_18) (hw _ wd_12) (hw _ wd_20) rfl (by decide) (sf_cons ⟨sf_x, (E_x).lt⟩ sf_nil) pd14 rfl rfl rfl (W := 0) rfl (by decide) (by decide) (k' := 4) rfl (n' := 8) rfl (by decide) (by decide) fun vm1 T1 h1 v1 X1 r1 Q1 => ?_
  obtain ⟨t_1, kb_1, rfl, q1_0, q1_1⟩ := Q1
  show Go _ _ _ _ _ _ _ T1 9 #[.val (.ref x), .val (.ref c0)] []
  exact X1.ret i21_9 rfl (by decide) (by decide) (fun sf hsf => ⟨t_1, kb_1, rfl, ((Keep.refl _ [x]).trans q1_0 (allS (Or.inl (List.mem_of_getElem? (i := 0) rfl)) all0)), q1_1⟩)
set_option maxRecDepth 65536 in
set_option maxHeartbeats 40000000 in
theorem c_len (l : Launch) {Z : State} {a0 : Array Value} {n0 : Nat} (hw : ∀ d ∈ tables_1, d.before a0 Z = true) (hEL : EW Z a0 own_EL) {zc : Int32} (hcs : Sta Z Z.heap "java/lang/String" "COMPACT_STRINGS" "Z" (.int zc)) (hcz : ¬ zc = 0) {fm : Value} (hfm : Sta Z Z.heap "jdk/internal/util/Preconditions" "SIOOBE_FORMATTER" "Ljava/util/function/BiFunction;" fm) (hfr : fm.isRef = true) (hst : l.stackTraces = true) (hKn : Z.vm.MethodsKnown) {us ss : Addr} (hus : Sta Z Z.heap "java/lang/Throwable" "UNASSIGNED_STACK" "[Ljava/lang/StackTraceElement;" (.ref us)) (hss : Sta Z Z.heap "java/lang/Throwable" "SUPPRESSED_SENTINEL" "Ljava/util/List;" (.ref ss)) {h : Heap} (hO : Old Z n0 h) (x : Int32) (r : Int32) (hr : (((x.toUInt32 >>> ((16 : Int32) &&& 31).toUInt32).toInt32) % (3 : Int32)) = r) :
    Con [] false l Z own_EL n0 [] (⟨"com/example/yusen/yusen/figures/TermFileFieldProblemPinLaw", "len", "(I)I"⟩ : MethodName) method_2_code 1 (some .int) ({ frames := 0, cells := 0, slots := 0, locals := 0 } : Room) #[(.int x)] h (fun v h' sf => v = some (.int r) ∧ h = h') := by
  refine Con.intro (Ls := #[.val (.int x)]) pn22 hEL hO (fun m => by first | rfl | (simp [entryFrame, mkF, argsToLocals, Value.category]; done)) fun C vm T hl X hs => ?_
  have X : On C ({ frames := 0, cells := 0, slots := 0, locals := 0 } : Room) "com/example/yusen/yusen/figures/TermFileFieldProblemPinLaw" method_2_code 1 (some .int) "len" false Z a0 own_EL n0 vm T h 0 0 := X
  refine X.iload_n i22_0 rfl ?_
  refine X.bipush i22_1 (z := (16 : Int32)) rfl ?_
  refine X.iushr i22_3 (z := ((x.toUInt32 >>> ((16 : Int32) &&& 31).toUInt32).toInt32)) rfl ?_
  refine X.iconst i22_4 (z := (3 : Int32)) rfl ?_
  refine X.irem i22_5 (by decide) (z := r) hr ?_
  exact X.ireturn i22_6 (t := .int) rfl (by decide) rfl (by decide) (by decide) (fun sf hsf => ⟨rfl, rfl⟩)
set_option maxRecDepth 65536 in
set_option maxHeartbeats 40000000 in
theorem c_str (l : Launch) {Z : State} {a0 : Array Value} {n0 : Nat} (hw : ∀ d ∈ tables_1, d.before a0 Z = true) (hEL : EW Z a0 own_EL) {zc : Int32} (hcs : Sta Z Z.heap "java/lang/String" "COMPACT_STRINGS" "Z" (.int zc)) (hcz : ¬ zc = 0) {fm : Value} (hfm : Sta Z Z.heap "jdk/internal/util/Preconditions" "SIOOBE_FORMATTER" "Ljava/util/function/BiFunction;" fm) (hfr : fm.isRef = true) (hst : l.stackTraces = true) (hKn : Z.vm.MethodsKnown) {us ss : Addr} (hus : Sta Z Z.heap "java/lang/Throwable" "UNASSIGNED_STACK" "[Ljava/lang/StackTraceElement;" (.ref us)) (hss : Sta Z Z.heap "java/lang/Throwable" "SUPPRESSED_SENTINEL" "Ljava/util/List;" (.ref ss)) {h : Heap} (hO : Old Z n0 h) (x : Int32) (r : Int32) (hr : (((x.toUInt32 >>> ((16 : Int32) &&& 31).toUInt32).toInt32) % (3 : Int32)) = r) (hr3 : r = 0 ∨ r = 1 ∨ r = 2) :
    Con [] false l Z own_EL n0 [] (⟨"com/example/yusen/yusen/figures/TermFileFieldProblemPinLaw", "str", "(I)Ljava/lang/String;"⟩ : MethodName) method_3_code 4 (some (.object "java/lang/String")) ({ frames := 4, cells := 6, slots := 12, locals := 66 } : Room) #[(.int x)] h (fun v h' sf => ∃ (s : Addr) (t : Addr) (kb : ClassId), v = some (.ref s) ∧ Ext h h' ∧ h.size ≤ s ∧ Str Z h' s t kb (own_mk r (x &&& (255 : Int32)) (((x.toUInt32 >>> ((8 : Int32) &&& 31).toUInt32).toInt32) &&& (255 : Int32)))) := by
  refine Con.intro (Ls := #[.val (.int x), .unset, .unset, .unset]) pn23 hEL hO (fun m => by first | rfl | (simp [entryFrame, mkF, argsToLocals, Value.category]; done)) fun C vm T hl X hs => ?_
  have X : On C ({ frames := 4, cells := 6, slots := 12, locals := 66 } : Room) "com/example/yusen/yusen/figures/TermFileFieldProblemPinLaw" method_3_code 4 (some (.object "java/lang/String")) "str" false Z a0 own_EL n0 vm T h 0 0 := X
  refine X.iload_n i23_0 rfl ?_
  refine X.callS hl (argsL := [(.int x)]) i23_1 (c_len l hw hEL hcs hcz hfm hfr hst hKn hus hss X.old x r hr) (hw _ wd_7) (hw _ wd_8) (hw _ wd_5) (hw _ wd_9) (by decide) sf_nil pd15 rfl rfl rfl (W := 0) rfl (by decide) (by decide) (k' := 0) rfl (n' := 0) rfl (by decide) (by decide) fun vm1 T1 h1 v1 X1 r1 Q1 => ?_
  obtain ⟨rfl, rfl⟩ := Q1
  show Go _ _ _ _ _ _ _ T1 4 #[.val (.int x), .unset, .unset, .unset] [(.int r)]
  refine X1.istore_n i23_4 (Ls' := #[.val (.int x), .val (.int r), .unset, .unset]) rfl ?_
  refine X1.iload_n i23_5 rfl ?_
  refine X1.sipush i23_6 (z := (255 : Int32)) rfl ?_
  refine X1.iand i23_9 (z := (x &&& (255 : Int32))) rfl ?_
  refine X1.i2c i23_10 (z := (x &&& (255 : Int32))) (i2c_mask _) ?_
  refine X1.istore_n i23_11 (Ls' := #[.val (.int x), .val (.int r), .val (.int (x &&& (255 : Int32))), .unset]) rfl ?_
  refine X1.iload_n i23_12 rfl ?_
  refine X1.bipush i23_13 (z := (8 : Int32)) rfl ?_
  refine X1.iushr i23_15 (z := ((x.toUInt32 >>> ((8 : Int32) &&& 31).toUInt32).toInt32)) rfl ?_
  refine X1.sipush i23_16 (z := (255 : Int32)) rfl ?_
  refine X1.iand i23_19 (z := (((x.toUInt32 >>> ((8 : Int32) &&& 31).toUInt32).toInt32) &&& (255 : Int32))) rfl ?_
  refine X1.i2c i23_20 (z := (((x.toUInt32 >>> ((8 : Int32) &&& 31).toUInt32).toInt32) &&& (255 : Int32))) (i2c_mask _) ?_
  refine X1.istore_n i23_21 (Ls' := #[.val (.int x), .val (.int r), .val (.int (x &&& (255 : Int32))), .val (.int (((x.toUInt32 >>> ((8 : Int32) &&& 31).toUInt32).toInt32) &&& (255 : Int32)))]) rfl ?_
  rcases hr3 with rfl | rfl | rfl
  · skip
    refine X1.iload_n i23_22 rfl ?_
    refine X1.ifN i23_23 (by decide) ?_
    refine X1.new i23_26 (hw _ wd_10) (hw _ wd_11) (hw _ wd_12) (k' := 1) rfl (n' := 4) rfl (by decide) (by decide) fun T2 h2 a2 X2 E2 z2 g2 A2 D2 U2 Sf2 => ?_
    refine X2.dup i23_29 rfl ?_
    refine X2.iconst i23_30 (z := (0 : Int32)) rfl ?_
    refine X2.newarray i23_31 (ty := .char) rfl (hw _ wd_13) (by decide) (cap := 0) (by decide) (by decide) (k' := 2) rfl (n' := 4) rfl (by decide) (by decide) fun T3 h3 a3 c3 X3 E3 z3 g3 V3 Sf3 => ?_
    have V3 : Arv Z h3 a3 c3 .char (0 : Int32) [] (.int (0 : Int32)) := V3.pad (pad_rep [] (.int (0 : Int32)) 0)
    have E4 := (A2.ext E3)
    have F5 : Fld Z h2 a2 "java/lang/String" "value" "[B" .null := D2 (Or.inr (hw _ wd_26)) (ty := (.array .byte)) (by decide)
    have F6 := (F5.ext E3)
    have F7 : Fld Z h2 a2 "java/lang/String" "coder" "B" (.int (0 : Int32)) := D2 (Or.inr (hw _ wd_27)) (ty := .byte) (by decide)
    have F8 := (F7.ext E3)
    have Sf10 := ((CHr.ext E3 X2.chv)).safe (A2).lt Sf2
    refine X3.callI hl (argsL := [(.ref a3)]) (a := a2) i23_33 (c_se1 l hw hEL hcs hcz hfm hfr hst hKn hus hss X3.old a2 a3 c3 (.int (0 : Int32)) E4 g2 F6 F8 V3) (hw _ wd_14) (hw _ wd_15) (hw _ wd_12) (hw _ wd_16) rfl (by decide) (sf_cons ⟨Sf10, (E4).lt⟩ sf_nil) pd16 rfl rfl rfl (W := 1) rfl (by decide) (by decide) (k' := 6) rfl (n' := 12) rfl (by decide) (by decide) fun vm9 T9 h9 v9 X9 r9 Q9 => ?_
    obtain ⟨t_9, kb_9, rfl, q9_0, q9_1⟩ := Q9
    show Go _ _ _ _ _ _ _ T9 36 #[.val (.int x), .val (.int (0 : Int32)), .val (.int (x &&& (255 : Int32))), .val (.int (((x.toUInt32 >>> ((8 : Int32) &&& 31).toUInt32).toInt32) &&& (255 : Int32)))] [(.ref a2)]
    have Sr : Str Z h9 a2 t_9 kb_9 (own_mk 0 (x &&& (255 : Int32)) (((x.toUInt32 >>> ((8 : Int32) &&& 31).toUInt32).toInt32) &&& (255 : Int32))) := by rw [own_mk0]; exact q9_1
    exact X9.areturn i23_36 rfl rfl rfl (by decide) (by decide) (fun sf hsf => ⟨a2, t_9, kb_9, rfl, (ext_keep (ext_trans E2 E3) q9_0 (allS (Nat.le_trans (Nat.le_refl _) (Nat.le_of_eq z2)) all0)), (Nat.le_trans (Nat.le_refl _) (Nat.le_of_eq z2)), Sr⟩)
  · skip
    refine X1.iload_n i23_22 rfl ?_
    refine X1.ifY i23_23 j23_14 (by decide) ?_
    refine X1.iload_n i23_37 rfl ?_
    refine X1.iconst i23_38 (z := (1 : Int32)) rfl ?_
    refine X1.icN i23_39 (by decide) ?_
    refine X1.new i23_42 (hw _ wd_10) (hw _ wd_11) (hw _ wd_12) (k' := 1) rfl (n' := 4) rfl (by decide) (by decide) fun T11 h11 a11 X11 E11 z11 g11 A11 D11 U11 Sf11 => ?_
    refine X11.dup i23_45 rfl ?_
    refine X11.iconst i23_46 (z := (1 : Int32)) rfl ?_
    refine X11.newarray i23_47 (ty := .char) rfl (hw _ wd_13) (by decide) (cap := 1) (by decide) (by decide) (k' := 2) rfl (n' := 5) rfl (by decide) (by decide) fun T12 h12 a12 c12 X12 E12 z12 g12 V12 Sf12 => ?_
    have V12 : Arv Z h12 a12 c12 .char (1 : Int32) [(.int (0 : Int32))] (.int (0 : Int32)) := V12.pad (pad_rep [] (.int (0 : Int32)) 1)
    refine X12.dup i23_49 rfl ?_
    refine X12.iconst i23_50 (z := (0 : Int32)) rfl ?_
    refine X12.iload_n i23_51 rfl ?_
    refine X12.castore i23_52 V12 ⟨by decide, by decide⟩ (i := 0) rfl (Nat.le_of_ble_eq_true rfl) (y := (x &&& (255 : Int32))) (i2c_mask _) g12 fun T13 h13 X13 W13 V13 => ?_
    have V13 : Arv Z h13 a12 c12 .char (1 : Int32) [(.int (x &&& (255 : Int32)))] (.int (0 : Int32)) := V13
    have E15 := ((A11.ext E12).wr W13)
    have F16 : Fld Z h11 a11 "java/lang/String" "value" "[B" .null := D11 (Or.inr (hw _ wd_26)) (ty := (.array .byte)) (by decide)
    have F17 := ((F16.ext E12).other W13 (Or.inl (Nat.ne_of_lt (Nat.lt_of_lt_of_le (A11).lt (Nat.le_of_eq z12)))))
    have F18 : Fld Z h11 a11 "java/lang/String" "coder" "B" (.int (0 : Int32)) := D11 (Or.inr (hw _ wd_27)) (ty := .byte) (by decide)
    have F19 := ((F18.ext E12).other W13 (Or.inl (Nat.ne_of_lt (Nat.lt_of_lt_of_le (A11).lt (Nat.le_of_eq z12)))))
    have Sf20 := (((CHr.ext E12 X11.chv)).trans (CHr.wr W13 (Safe.arv X12.zw.alike V12 (by simp)) X12.chv)).safe (A11).lt Sf11
    have hp14 : ∀ c9 ∈ ([(x &&& (255 : Int32))] : List Int32), ¬ c9 < 0 ∧ ¬ (255 : Int32) < c9 := (own_allS (own_and255 _) own_all0)
    refine own_strInit X13 hw (cs := [(x &&& (255 : Int32))]) (c0 := a12) i23_53 (hw _ wd_14) g11 E15 F17 F19 V13 rfl (Nat.le_of_ble_eq_true rfl) (Nat.le_of_ble_eq_true rfl) hp14 hcs hcz Sf20 rfl (W := 1) rfl (by decide) (by decide) (k' := 3) rfl (n' := 6) rfl (by decide) (by decide) fun T14 h14 t14 b14 X14 K14 y14 S14 => ?_
    have Sr : Str Z h14 a11 t14 b14 (own_mk 1 (x &&& (255 : Int32)) (((x.toUInt32 >>> ((8 : Int32) &&& 31).toUInt32).toInt32) &&& (255 : Int32))) := by rw [own_mk1]; exact S14
    exact X14.areturn i23_56 rfl rfl rfl (by decide) (by decide) (fun sf hsf => ⟨a11, t14, b14, rfl, (ext_keep (ext_wr (ext_trans E11 E12) W13 (Nat.le_trans (Nat.le_refl _) (Nat.le_trans E11.1 (Nat.le_of_eq z12)))) K14 (allS (Nat.le_trans (Nat.le_refl _) (Nat.le_of_eq z11)) all0)), (Nat.le_trans (Nat.le_refl _) (Nat.le_of_eq z11)), Sr⟩)
  · skip
    refine X1.iload_n i23_22 rfl ?_
    refine X1.ifY i23_23 j23_14 (by decide) ?_
    refine X1.iload_n i23_37 rfl ?_
    refine X1.iconst i23_38 (z := (1 : Int32)) rfl ?_
    refine X1.icY i23_39 j39_18 (by decide) ?_
    refine X1.new i23_57 (hw _ wd_10) (hw _ wd_11) (hw _ wd_12) (k' := 1) rfl (n' := 4) rfl (by decide) (by decide) fun T21 h21 a21 X21 E21 z21 g21 A21 D21 U21 Sf21 => ?_
    refine X21.dup i23_60 rfl ?_
    refine X21.iconst i23_61 (z := (2 : Int32)) rfl ?_
    refine X21.newarray i23_62 (ty := .char) rfl (hw _ wd_13) (by decide) (cap := 2) (by decide) (by decide) (k' := 2) rfl (n' := 6) rfl (by decide) (by decide) fun T22 h22 a22 c22 X22 E22 z22 g22 V22 Sf22 => ?_
    have V22 : Arv Z h22 a22 c22 .char (2 : Int32) [(.int (0 : Int32)), (.int (0 : Int32))] (.int (0 : Int32)) := V22.pad (pad_rep [] (.int (0 : Int32)) 2)
    refine X22.dup i23_64 rfl ?_
    refine X22.iconst i23_65 (z := (0 : Int32)) rfl ?_
    refine X22.iload_n i23_66 rfl ?_
    refine X22.castore i23_67 V22 ⟨by decide, by decide⟩ (i := 0) rfl (Nat.le_of_ble_eq_true rfl) (y := (x &&& (255 : Int32))) (i2c_mask _) g22 fun T23 h23 X23 W23 V23 => ?_
    have V23 : Arv Z h23 a22 c22 .char (2 : Int32) [(.int (x &&& (255 : Int32))), (.int (0 : Int32))] (.int (0 : Int32)) := V23
    refine X23.dup i23_68 rfl ?_
    refine X23.iconst i23_69 (z := (1 : Int32)) rfl ?_
    refine X23.iload_n i23_70 rfl ?_
    refine X23.castore i23_71 V23 ⟨by decide, by decide⟩ (i := 1) rfl (Nat.le_of_ble_eq_true rfl) (y := (((x.toUInt32 >>> ((8 : Int32) &&& 31).toUInt32).toInt32) &&& (255 : Int32))) (i2c_mask _) g22 fun T24 h24 X24 W24 V24 => ?_
    have V24 : Arv Z h24 a22 c22 .char (2 : Int32) [(.int (x &&& (255 : Int32))), (.int (((x.toUInt32 >>> ((8 : Int32) &&& 31).toUInt32).toInt32) &&& (255 : Int32)))] (.int (0 : Int32)) := V24
    have E26 := (((A21.ext E22).wr W23).wr W24)
    have F27 : Fld Z h21 a21 "java/lang/String" "value" "[B" .null := D21 (Or.inr (hw _ wd_26)) (ty := (.array .byte)) (by decide)
    have F28 := (((F27.ext E22).other W23 (Or.inl (Nat.ne_of_lt (Nat.lt_of_lt_of_le (A21).lt (Nat.le_of_eq z22))))).other W24 (Or.inl (Nat.ne_of_lt (Nat.lt_of_lt_of_le (A21).lt (Nat.le_of_eq z22)))))
    have F29 : Fld Z h21 a21 "java/lang/String" "coder" "B" (.int (0 : Int32)) := D21 (Or.inr (hw _ wd_27)) (ty := .byte) (by decide)
    have F30 := (((F29.ext E22).other W23 (Or.inl (Nat.ne_of_lt (Nat.lt_of_lt_of_le (A21).lt (Nat.le_of_eq z22))))).other W24 (Or.inl (Nat.ne_of_lt (Nat.lt_of_lt_of_le (A21).lt (Nat.le_of_eq z22)))))
    have Sf31 := ((((CHr.ext E22 X21.chv)).trans (CHr.wr W23 (Safe.arv X22.zw.alike V22 (by simp)) X22.chv)).trans (CHr.wr W24 (Safe.arv X23.zw.alike V23 (by simp)) X23.chv)).safe (A21).lt Sf21
    have hp25 : ∀ c9 ∈ ([(x &&& (255 : Int32)), (((x.toUInt32 >>> ((8 : Int32) &&& 31).toUInt32).toInt32) &&& (255 : Int32))] : List Int32), ¬ c9 < 0 ∧ ¬ (255 : Int32) < c9 := (own_allS (own_and255 _) (own_allS (own_and255 _) own_all0))
    refine own_strInit X24 hw (cs := [(x &&& (255 : Int32)), (((x.toUInt32 >>> ((8 : Int32) &&& 31).toUInt32).toInt32) &&& (255 : Int32))]) (c0 := a22) i23_72 (hw _ wd_14) g21 E26 F28 F30 V24 rfl (Nat.le_of_ble_eq_true rfl) (Nat.le_of_ble_eq_true rfl) hp25 hcs hcz Sf31 rfl (W := 1) rfl (by decide) (by decide) (k' := 3) rfl (n' := 8) rfl (by decide) (by decide) fun T25 h25 t25 b25 X25 K25 y25 S25 => ?_
    have Sr : Str Z h25 a21 t25 b25 (own_mk 2 (x &&& (255 : Int32)) (((x.toUInt32 >>> ((8 : Int32) &&& 31).toUInt32).toInt32) &&& (255 : Int32))) := by rw [own_mk2]; exact S25
    exact X25.areturn i23_75 rfl rfl rfl (by decide) (by decide) (fun sf hsf => ⟨a21, t25, b25, rfl, (ext_keep (ext_wr (ext_wr (ext_trans E21 E22) W23 (Nat.le_trans (Nat.le_refl _) (Nat.le_trans E21.1 (Nat.le_of_eq z22)))) W24 (Nat.le_trans (Nat.le_refl _) (Nat.le_trans E21.1 (Nat.le_of_eq z22)))) K25 (allS (Nat.le_trans (Nat.le_refl _) (Nat.le_of_eq z21)) all0)), (Nat.le_trans (Nat.le_refl _) (Nat.le_of_eq z21)), Sr⟩)
set_option maxRecDepth 65536 in
set_option maxHeartbeats 40000000 in
theorem c_put_ (l : Launch) {Z : State} {a0 : Array Value} {n0 : Nat} (hw : ∀ d ∈ tables_1, d.before a0 Z = true) (hEL : EW Z a0 own_EL) {zc : Int32} (hcs : Sta Z Z.heap "java/lang/String" "COMPACT_STRINGS" "Z" (.int zc)) (hcz : ¬ zc = 0) {fm : Value} (hfm : Sta Z Z.heap "jdk/internal/util/Preconditions" "SIOOBE_FORMATTER" "Ljava/util/function/BiFunction;" fm) (hfr : fm.isRef = true) (hst : l.stackTraces = true) (hKn : Z.vm.MethodsKnown) {us ss : Addr} (hus : Sta Z Z.heap "java/lang/Throwable" "UNASSIGNED_STACK" "[Ljava/lang/StackTraceElement;" (.ref us)) (hss : Sta Z Z.heap "java/lang/Throwable" "SUPPRESSED_SENTINEL" "Ljava/util/List;" (.ref ss)) {h : Heap} (hO : Old Z n0 h) (e : Addr) (ke : ClassId) (es : List Int32) (x : Int32) (r : Int32) (fs : List Int32) (V_e : Arv Z h e ke .char (10 : Int32) (es.map Value.int) (.int (0 : Int32))) (g_e : n0 ≤ e) (hr : (((x.toUInt32 >>> ((16 : Int32) &&& 31).toUInt32).toInt32) % (3 : Int32)) = r) (hr3 : r = 0 ∨ r = 1 ∨ r = 2) (h8 : es.length ≤ 8) (hfs : es ++ (own_mk r (x &&& (255 : Int32)) (((x.toUInt32 >>> ((8 : Int32) &&& 31).toUInt32).toInt32) &&& (255 : Int32))) = fs) :
    Con [] false l Z own_EL n0 [] (⟨"com/example/yusen/yusen/figures/TermFileFieldProblemPinLaw", "put", "([CII)I"⟩ : MethodName) method_4_code 5 (some .int) ({ frames := 1, cells := 0, slots := 0, locals := 12 } : Room) #[(.ref e), (.int (Int32.ofNat es.length)), (.int x)] h (fun v h' sf => v = some (.int (Int32.ofNat fs.length)) ∧ Keep h h' [e] ∧ Arv Z h' e ke .char (10 : Int32) (fs.map Value.int) (.int (0 : Int32))) := by
  refine Con.intro (Ls := #[.val (.ref e), .val (.int (Int32.ofNat es.length)), .val (.int x), .unset, .unset]) pn24 hEL hO (fun m => by first | rfl | (simp [entryFrame, mkF, argsToLocals, Value.category]; done)) fun C vm T hl X hs => ?_
  have X : On C ({ frames := 1, cells := 0, slots := 0, locals := 12 } : Room) "com/example/yusen/yusen/figures/TermFileFieldProblemPinLaw" method_4_code 5 (some .int) "put" false Z a0 own_EL n0 vm T h 0 0 := X
  refine X.iload_n i24_0 rfl ?_
  refine X.callS hl (argsL := [(.int x)]) i24_1 (c_len l hw hEL hcs hcz hfm hfr hst hKn hus hss X.old x r hr) (hw _ wd_7) (hw _ wd_8) (hw _ wd_5) (hw _ wd_9) (by decide) sf_nil pd15 rfl rfl rfl (W := 0) rfl (by decide) (by decide) (k' := 0) rfl (n' := 0) rfl (by decide) (by decide) fun vm1 T1 h1 v1 X1 r1 Q1 => ?_
  obtain ⟨rfl, rfl⟩ := Q1
  show Go _ _ _ _ _ _ _ T1 4 #[.val (.ref e), .val (.int (Int32.ofNat es.length)), .val (.int x), .unset, .unset] [(.int r)]
  refine X1.istore_n i24_4 (Ls' := #[.val (.ref e), .val (.int (Int32.ofNat es.length)), .val (.int x), .val (.int r), .unset]) rfl ?_
  refine X1.iload_n i24_5 rfl ?_
  refine X1.istore i24_6 (Ls' := #[.val (.ref e), .val (.int (Int32.ofNat es.length)), .val (.int x), .val (.int r), .val (.int (Int32.ofNat es.length))]) rfl ?_
  rcases hr3 with rfl | rfl | rfl
  · skip
    rw [own_mk0] at hfs
    rw [List.append_nil] at hfs
    subst hfs
    refine X1.iload_n i24_8 rfl ?_
    refine X1.ifY i24_9 j9_19 (by decide) ?_
    refine X1.iload_n i24_28 rfl ?_
    refine X1.iconst i24_29 (z := (1 : Int32)) rfl ?_
    refine X1.icY i24_30 j30_22 (by decide) ?_
    refine X1.iload i24_52 rfl ?_
    exact X1.ireturn i24_54 (t := .int) rfl (by decide) rfl (by decide) (by decide) (fun sf hsf => ⟨rfl, (Keep.refl _ [e]), V_e⟩)
  · skip
    rw [own_mk1] at hfs
    refine X1.iload_n i24_8 rfl ?_
    refine X1.ifN i24_9 (by decide) ?_
    refine X1.aload_n i24_12 rfl rfl ?_
    refine X1.iload i24_13 rfl ?_
    refine X1.iload_n i24_15 rfl ?_
    refine X1.sipush i24_16 (z := (255 : Int32)) rfl ?_
    refine X1.iand i24_19 (z := (x &&& (255 : Int32))) rfl ?_
    refine X1.i2c i24_20 (z := (x &&& (255 : Int32))) (i2c_mask _) ?_
    have B2 := V_e.pad (pad_rep (es.map Value.int) (.int (0 : Int32)) 1)
    refine X1.castore i24_21 B2 (own_in10 (Nat.le_trans h8 (by decide))) (i := es.length) (own_tn9 (Nat.le_trans h8 (by decide))) (by simp) (y := (x &&& (255 : Int32))) (i2c_mask _) g_e fun T2 h2 X2 W2 V2 => ?_
    have V2 : Arv Z h2 e ke .char (10 : Int32) (fs.map Value.int) (.int (0 : Int32)) := by rw [← own_snoc (es := es) (.int (0 : Int32)) hfs]; exact V2
    refine X2.iload i24_22 rfl ?_
    refine X2.iconst i24_24 (z := (1 : Int32)) rfl ?_
    refine X2.iadd i24_25 (z := (Int32.ofNat fs.length)) (own_snl hfs) ?_
    refine X2.istore i24_26 (Ls' := #[.val (.ref e), .val (.int (Int32.ofNat es.length)), .val (.int x), .val (.int (1 : Int32)), .val (.int (Int32.ofNat fs.length))]) rfl ?_
    refine X2.iload_n i24_28 rfl ?_
    refine X2.iconst i24_29 (z := (1 : Int32)) rfl ?_
    refine X2.icY i24_30 j30_22 (by decide) ?_
    refine X2.iload i24_52 rfl ?_
    exact X2.ireturn i24_54 (t := .int) rfl (by decide) rfl (by decide) (by decide) (fun sf hsf => ⟨rfl, ((Keep.refl _ [e]).wr W2 (Or.inl (List.mem_of_getElem? (i := 0) rfl))), V2⟩)
  · skip
    rw [own_mk2] at hfs
    have h9 : (es ++ [(x &&& (255 : Int32))]).length ≤ 9 := by rw [List.length_append]; exact Nat.succ_le_succ h8
    have hfs2 : (es ++ [(x &&& (255 : Int32))]) ++ [(((x.toUInt32 >>> ((8 : Int32) &&& 31).toUInt32).toInt32) &&& (255 : Int32))] = fs := by rw [List.append_assoc]; exact hfs
    refine X1.iload_n i24_8 rfl ?_
    refine X1.ifN i24_9 (by decide) ?_
    refine X1.aload_n i24_12 rfl rfl ?_
    refine X1.iload i24_13 rfl ?_
    refine X1.iload_n i24_15 rfl ?_
    refine X1.sipush i24_16 (z := (255 : Int32)) rfl ?_
    refine X1.iand i24_19 (z := (x &&& (255 : Int32))) rfl ?_
    refine X1.i2c i24_20 (z := (x &&& (255 : Int32))) (i2c_mask _) ?_
    have B3 := V_e.pad (pad_rep (es.map Value.int) (.int (0 : Int32)) 1)
    refine X1.castore i24_21 B3 (own_in10 (Nat.le_trans h8 (by decide))) (i := es.length) (own_tn9 (Nat.le_trans h8 (by decide))) (by simp) (y := (x &&& (255 : Int32))) (i2c_mask _) g_e fun T3 h3 X3 W3 V3 => ?_
    have V3 : Arv Z h3 e ke .char (10 : Int32) ((es ++ [(x &&& (255 : Int32))]).map Value.int) (.int (0 : Int32)) := by rw [← own_snoc (es := es) (.int (0 : Int32)) rfl]; exact V3
    refine X3.iload i24_22 rfl ?_
    refine X3.iconst i24_24 (z := (1 : Int32)) rfl ?_
    refine X3.iadd i24_25 (z := (Int32.ofNat (es ++ [(x &&& (255 : Int32))]).length)) (own_snl rfl) ?_
    refine X3.istore i24_26 (Ls' := #[.val (.ref e), .val (.int (Int32.ofNat es.length)), .val (.int x), .val (.int (2 : Int32)), .val (.int (Int32.ofNat (es ++ [(x &&& (255 : Int32))]).length))]) rfl ?_
    refine X3.iload_n i24_28 rfl ?_
    refine X3.iconst i24_29 (z := (1 : Int32)) rfl ?_
    refine X3.icN i24_30 (by decide) ?_
    refine X3.aload_n i24_33 rfl rfl ?_
    refine X3.iload i24_34 rfl ?_
    refine X3.iload_n i24_36 rfl ?_
    refine X3.bipush i24_37 (z := (8 : Int32)) rfl ?_
    refine X3.iushr i24_39 (z := ((x.toUInt32 >>> ((8 : Int32) &&& 31).toUInt32).toInt32)) rfl ?_
    refine X3.sipush i24_40 (z := (255 : Int32)) rfl ?_
    refine X3.iand i24_43 (z := (((x.toUInt32 >>> ((8 : Int32) &&& 31).toUInt32).toInt32) &&& (255 : Int32))) rfl ?_
    refine X3.i2c i24_44 (z := (((x.toUInt32 >>> ((8 : Int32) &&& 31).toUInt32).toInt32) &&& (255 : Int32))) (i2c_mask _) ?_
    have B4 := V3.pad (pad_rep ((es ++ [(x &&& (255 : Int32))]).map Value.int) (.int (0 : Int32)) 1)
    refine X3.castore i24_45 B4 (own_in10 h9) (i := (es ++ [(x &&& (255 : Int32))]).length) (own_tn9 h9) (by simp) (y := (((x.toUInt32 >>> ((8 : Int32) &&& 31).toUInt32).toInt32) &&& (255 : Int32))) (i2c_mask _) g_e fun T4 h4 X4 W4 V4 => ?_
    have V4 : Arv Z h4 e ke .char (10 : Int32) (fs.map Value.int) (.int (0 : Int32)) := by rw [← own_snoc (es := (es ++ [(x &&& (255 : Int32))])) (.int (0 : Int32)) hfs2]; exact V4
    refine X4.iload i24_46 rfl ?_
    refine X4.iconst i24_48 (z := (1 : Int32)) rfl ?_
    refine X4.iadd i24_49 (z := (Int32.ofNat fs.length)) (own_snl hfs2) ?_
    refine X4.istore i24_50 (Ls' := #[.val (.ref e), .val (.int (Int32.ofNat es.length)), .val (.int x), .val (.int (2 : Int32)), .val (.int (Int32.ofNat fs.length))]) rfl ?_
    refine X4.iload i24_52 rfl ?_
    exact X4.ireturn i24_54 (t := .int) rfl (by decide) rfl (by decide) (by decide) (fun sf hsf => ⟨rfl, (((Keep.refl _ [e]).wr W3 (Or.inl (List.mem_of_getElem? (i := 0) rfl))).wr W4 (Or.inl (List.mem_of_getElem? (i := 0) rfl))), V4⟩)
set_option maxRecDepth 65536 in
set_option maxHeartbeats 40000000 in
theorem c_same (l : Launch) {Z : State} {a0 : Array Value} {n0 : Nat} (hw : ∀ d ∈ tables_1, d.before a0 Z = true) (hEL : EW Z a0 own_EL) {zc : Int32} (hcs : Sta Z Z.heap "java/lang/String" "COMPACT_STRINGS" "Z" (.int zc)) (hcz : ¬ zc = 0) {fm : Value} (hfm : Sta Z Z.heap "jdk/internal/util/Preconditions" "SIOOBE_FORMATTER" "Ljava/util/function/BiFunction;" fm) (hfr : fm.isRef = true) (hst : l.stackTraces = true) (hKn : Z.vm.MethodsKnown) {us ss : Addr} (hus : Sta Z Z.heap "java/lang/Throwable" "UNASSIGNED_STACK" "[Ljava/lang/StackTraceElement;" (.ref us)) (hss : Sta Z Z.heap "java/lang/Throwable" "SUPPRESSED_SENTINEL" "Ljava/util/List;" (.ref ss)) {h : Heap} (hO : Old Z n0 h) (s : Addr) (t : Addr) (kb : ClassId) (cs : List Int32) (e : Addr) (ke : ClassId) (i : Nat) (S_s : Str Z h s t kb cs) (V_e : Arv Z h e ke .char (10 : Int32) (cs.map Value.int) (.int (0 : Int32))) (hlc : cs.length ≤ 10) (hi : i ≤ 4000) :
    Con [] false l Z own_EL n0 [] (⟨"com/example/yusen/yusen/figures/TermFileFieldProblemPinLaw", "same", "(Ljava/lang/String;[CII)Z"⟩ : MethodName) method_5_code 4 (some .boolean) ({ frames := 4, cells := 0, slots := 0, locals := 53 } : Room) #[(.ref s), (.ref e), (.int (Int32.ofNat cs.length)), (.int (Int32.ofNat i))] h (fun v h' sf => v = some (.int (1 : Int32)) ∧ h = h') := by
  refine Con.intro (Ls := #[.val (.ref s), .val (.ref e), .val (.int (Int32.ofNat cs.length)), .val (.int (Int32.ofNat i))]) pn25 hEL hO (fun m => by first | rfl | (simp [entryFrame, mkF, argsToLocals, Value.category]; done)) fun C vm T hl X hs => ?_
  have X : On C ({ frames := 4, cells := 0, slots := 0, locals := 53 } : Room) "com/example/yusen/yusen/figures/TermFileFieldProblemPinLaw" method_5_code 4 (some .boolean) "same" false Z a0 own_EL n0 vm T h 0 0 := X
  have hl4 : cs.length ≤ 4000 := Nat.le_trans hlc (by decide)
  refine X.iload_n i25_0 rfl ?_
  refine X.iload_n i25_1 rfl ?_
  by_cases hx : i < cs.length
  · skip
    refine X.icN i25_2 (XT.ii_ge_f ((own_ilt hi hl4).mpr hx)) ?_
    refine X.aload_n i25_5 rfl rfl ?_
    refine X.iload_n i25_6 rfl ?_
    refine own_strAt X hw i25_7 (hw _ wd_235) S_s hl4 hcs hcz hfm hfr (i := i) hx rfl (c := (cs.getD i 0)) rfl rfl (W := 0) rfl (by decide) (by decide) (by decide) (by decide) fun T1 X1 => ?_
    refine X1.aload_n i25_10 rfl rfl ?_
    refine X1.iload_n i25_11 rfl ?_
    refine X1.caload i25_12 V_e (own_in10 (Nat.le_of_lt_succ (Nat.lt_of_lt_of_le hx hlc))) (own_getm _ hx hi) ?_
    refine X1.icN i25_13 (teq rfl).2 ?_
    refine X1.iconst i25_16 (z := (1 : Int32)) rfl ?_
    refine X1.goto i25_17 j17_4 ?_
    exact X1.ireturn i25_21 (t := .boolean) rfl (by decide) rfl (by decide) (by decide) (fun sf hsf => ⟨rfl, rfl⟩)
  · skip
    refine X.icY i25_2 j2_14 (XT.ii_ge_t (fun q => hx ((own_ilt hi hl4).mp q))) ?_
    refine X.iconst i25_16 (z := (1 : Int32)) rfl ?_
    refine X.goto i25_17 j17_4 ?_
    exact X.ireturn i25_21 (t := .boolean) rfl (by decide) rfl (by decide) (by decide) (fun sf hsf => ⟨rfl, rfl⟩)
set_option maxRecDepth 65536 in
set_option maxHeartbeats 40000000 in
theorem c_tf (l : Launch) {Z : State} {a0 : Array Value} {n0 : Nat} (hw : ∀ d ∈ tables_1, d.before a0 Z = true) (hEL : EW Z a0 own_EL) {zc : Int32} (hcs : Sta Z Z.heap "java/lang/String" "COMPACT_STRINGS" "Z" (.int zc)) (hcz : ¬ zc = 0) {fm : Value} (hfm : Sta Z Z.heap "jdk/internal/util/Preconditions" "SIOOBE_FORMATTER" "Ljava/util/function/BiFunction;" fm) (hfr : fm.isRef = true) (hst : l.stackTraces = true) (hKn : Z.vm.MethodsKnown) {us ss : Addr} (hus : Sta Z Z.heap "java/lang/Throwable" "UNASSIGNED_STACK" "[Ljava/lang/StackTraceElement;" (.ref us)) (hss : Sta Z Z.heap "java/lang/Throwable" "SUPPRESSED_SENTINEL" "Ljava/util/List;" (.ref ss)) {h : Heap} (hO : Old Z n0 h) (f : Addr) (s1 : Addr) (s2 : Addr) (E_f : Exa Z h f "com/example/yusen/yusen/figures/TermFileField") (g_f : n0 ≤ f) (F_1 : Fld Z h f "com/example/yusen/yusen/figures/TermFileField" "source" "Ljava/lang/String;" .null) (F_2 : Fld Z h f "com/example/yusen/yusen/figures/TermFileField" "path" "Ljava/lang/String;" .null) :
    Con [] false l Z own_EL n0 [f] (⟨"com/example/yusen/yusen/figures/TermFileField", "<init>", "(Ljava/lang/String;Ljava/lang/String;)V"⟩ : MethodName) prog_23_method_1_code 3 none ({ frames := 1, cells := 0, slots := 0, locals := 12 } : Room) #[(.ref f), (.ref s1), (.ref s2)] h (fun v h' sf => v = none ∧ Keep h h' [f] ∧ Fld Z h' f "com/example/yusen/yusen/figures/TermFileField" "source" "Ljava/lang/String;" (.ref s1) ∧ Fld Z h' f "com/example/yusen/yusen/figures/TermFileField" "path" "Ljava/lang/String;" (.ref s2)) := by
  refine Con.intro (Ls := #[.val (.ref f), .val (.ref s1), .val (.ref s2)]) pn26 hEL hO (fun m => by first | rfl | (simp [entryFrame, mkF, argsToLocals, Value.category]; done)) fun C vm T hl X hs => ?_
  have X : On C ({ frames := 1, cells := 0, slots := 0, locals := 12 } : Room) "com/example/yusen/yusen/figures/TermFileField" prog_23_method_1_code 3 none "<init>" false Z a0 own_EL n0 vm T h 0 0 := X
  have sf_f := hs f (List.mem_of_getElem? (i := 0) rfl)
  refine X.aload_n i26_0 rfl rfl ?_
  refine X.initO i26_1 (hw _ wd_35) (hw _ wd_22) (hw _ wd_23) rfl (by decide) (W := 0) rfl (by decide) fun T1 X1 => ?_
  refine X1.aload_n i26_4 rfl rfl ?_
  refine X1.aload_n i26_5 rfl rfl ?_
  refine X1.putfield i26_6 (hw _ wd_36) Via.refl F_1 E_f (Or.inr ⟨(hw _ wd_37), rfl, rfl⟩) (hw _ wd_1) (ty := (.object "java/lang/String")) (by decide) rfl rfl g_f sf_f fun T2 h2 X2 W2 => ?_
  refine X2.aload_n i26_9 rfl rfl ?_
  refine X2.aload_n i26_10 rfl rfl ?_
  have F3 := (F_2.other W2 (Or.inr (slot_ne (Or.inr (hw _ wd_39)) (Or.inr (hw _ wd_37)) (by decide) (t := (.object "java/lang/String")) (t' := (.object "java/lang/String")) (by decide) (by decide))))
  have E4 := (E_f.wr W2)
  have Sf6 := ((CHr.wr W2 sf_f X1.chv)).safe (F_2).lt sf_f
  refine X2.putfield i26_11 (hw _ wd_38) Via.refl F3 E4 (Or.inr ⟨(hw _ wd_39), rfl, rfl⟩) (hw _ wd_1) (ty := (.object "java/lang/String")) (by decide) rfl rfl g_f Sf6 fun T5 h5 X5 W5 => ?_
  have F7 := ((F_1.same W2).other W5 (Or.inr (slot_ne (Or.inr (hw _ wd_37)) (Or.inr (hw _ wd_39)) (by decide) (t := (.object "java/lang/String")) (t' := (.object "java/lang/String")) (by decide) (by decide))))
  exact X5.ret i26_14 rfl (by decide) (by decide) (fun sf hsf => ⟨rfl, (((Keep.refl _ [f]).wr W2 (Or.inl (List.mem_of_getElem? (i := 0) rfl))).wr W5 (Or.inl (List.mem_of_getElem? (i := 0) rfl))), F7, (F3.same W5)⟩)
theorem own_thrW {Z : State} {a0 : Array Value} (hw : ∀ d ∈ tables_1, d.before a0 Z = true) : ∀ d ∈ thrWords "com/example/yusen/yusen/figures/TermFileException", d.before a0 Z = true := fun d hd => hw d ((by decide +kernel : ∀ d ∈ thrWords "com/example/yusen/yusen/figures/TermFileException", d ∈ tables_1) d hd)
set_option maxRecDepth 65536 in
set_option maxHeartbeats 40000000 in
theorem c_th (l : Launch) {Z : State} {a0 : Array Value} {n0 : Nat} (hw : ∀ d ∈ tables_1, d.before a0 Z = true) (hEL : EW Z a0 own_EL) {zc : Int32} (hcs : Sta Z Z.heap "java/lang/String" "COMPACT_STRINGS" "Z" (.int zc)) (hcz : ¬ zc = 0) {fm : Value} (hfm : Sta Z Z.heap "jdk/internal/util/Preconditions" "SIOOBE_FORMATTER" "Ljava/util/function/BiFunction;" fm) (hfr : fm.isRef = true) (hst : l.stackTraces = true) (hKn : Z.vm.MethodsKnown) {us ss : Addr} (hus : Sta Z Z.heap "java/lang/Throwable" "UNASSIGNED_STACK" "[Ljava/lang/StackTraceElement;" (.ref us)) (hss : Sta Z Z.heap "java/lang/Throwable" "SUPPRESSED_SENTINEL" "Ljava/util/List;" (.ref ss)) {h : Heap} (hO : Old Z n0 h) (x : Addr) (m : Addr) (E_x : Exa Z h x "com/example/yusen/yusen/figures/TermFileException") (U_x : Unt h x) (g_x : n0 ≤ x) (F_x0 : Fld Z h x "java/lang/Throwable" "backtrace" "Ljava/lang/Object;" .null) (F_x1 : Fld Z h x "java/lang/Throwable" "detailMessage" "Ljava/lang/String;" .null) (F_x2 : Fld Z h x "java/lang/Throwable" "cause" "Ljava/lang/Throwable;" .null) (F_x3 : Fld Z h x "java/lang/Throwable" "stackTrace" "[Ljava/lang/StackTraceElement;" .null) (F_x4 : Fld Z h x "java/lang/Throwable" "suppressedExceptions" "Ljava/util/List;" .null) :
    ConK [] false l Z own_EL n0 [x] (⟨"java/lang/Throwable", "<init>", "(Ljava/lang/String;)V"⟩ : MethodName) jdk_78_method_2_code 2 none ({ frames := 3, cells := 1, slots := 2752, locals := 42 } : Room) #[(.ref x), (.ref m)] h (fun v h' sf => v = none ∧ Keep h h' [x] ∧ Exa Z h' x "com/example/yusen/yusen/figures/TermFileException" ∧ Unt h' x ∧ Fld Z h' x "java/lang/Throwable" "detailMessage" "Ljava/lang/String;" (.ref m) ∧ Fld Z h' x "java/lang/Throwable" "cause" "Ljava/lang/Throwable;" (.ref x)) := by
  refine Con.introK (Ls := #[.val (.ref x), .val (.ref m)]) pn27 hEL hO (fun m => by first | rfl | (simp [entryFrame, mkF, argsToLocals, Value.category]; done)) fun C vm T hl X hs hT0 hFK => ?_
  have X : On C ({ frames := 3, cells := 1, slots := 2752, locals := 42 } : Room) "java/lang/Throwable" jdk_78_method_2_code 2 none "<init>" false Z a0 own_EL n0 vm T h 0 0 := X
  have sf_x := hs x (List.mem_of_getElem? (i := 0) rfl)
  refine X.aload_n i27_0 rfl rfl ?_
  refine X.initO i27_1 (hw _ wd_179) (hw _ wd_22) (hw _ wd_23) rfl (by decide) (W := 0) rfl (by decide) fun T1 X1 => ?_
  refine X1.aload_n i27_4 rfl rfl ?_
  refine X1.aload_n i27_5 rfl rfl ?_
  refine X1.putfield i27_6 (hw _ wd_180) Via.refl F_x2 E_x (Or.inl (hw _ wd_181)) (hw _ wd_46) (ty := (.object "java/lang/Throwable")) (by decide) rfl rfl g_x sf_x fun T2 h2 X2 W2 => ?_
  refine X2.aload_n i27_9 rfl rfl ?_
  refine X2.getstatic i27_10 (hw _ wd_182) Via.refl (hus.ext X2.ext0) fun T3 X3 => ?_
  have F4 := (F_x3.other W2 (Or.inr (slot_ne (Or.inl (hw _ wd_184)) (Or.inl (hw _ wd_181)) (by decide) (t := (.array (.object "java/lang/StackTraceElement"))) (t' := (.object "java/lang/Throwable")) (by decide) (by decide))))
  have E5 := (E_x.wr W2)
  have Sf7 := ((CHr.wr W2 sf_x X1.chv)).safe (F_x3).lt sf_x
  refine X3.putfield i27_13 (hw _ wd_183) Via.refl F4 E5 (Or.inl (hw _ wd_184)) (hw _ wd_46) (ty := (.array (.object "java/lang/StackTraceElement"))) (by decide) rfl rfl g_x Sf7 fun T6 h6 X6 W6 => ?_
  refine X6.aload_n i27_16 rfl rfl ?_
  refine X6.getstatic i27_17 (hw _ wd_185) Via.refl (hss.ext X6.ext0) fun T8 X8 => ?_
  have F9 := ((F_x4.other W2 (Or.inr (slot_ne (Or.inl (hw _ wd_187)) (Or.inl (hw _ wd_181)) (by decide) (t := (.object "java/util/List")) (t' := (.object "java/lang/Throwable")) (by decide) (by decide)))).other W6 (Or.inr (slot_ne (Or.inl (hw _ wd_187)) (Or.inl (hw _ wd_184)) (by decide) (t := (.object "java/util/List")) (t' := (.array (.object "java/lang/StackTraceElement"))) (by decide) (by decide))))
  have E10 := (E5.wr W6)
  have Sf12 := ((CHr.wr W6 Sf7 X3.chv)).safe (E5).lt Sf7
  refine X8.putfield i27_20 (hw _ wd_186) Via.refl F9 E10 (Or.inl (hw _ wd_187)) (hw _ wd_46) (ty := (.object "java/util/List")) (by decide) rfl rfl g_x Sf12 fun T11 h11 X11 W11 => ?_
  refine X11.aload_n i27_23 rfl rfl ?_
  have E13 := (E10.wr W11)
  have U14 := (((U_x.wr W2).wr W6).wr W11)
  have F15 := ((F4.same W6).other W11 (Or.inr (slot_ne (Or.inl (hw _ wd_184)) (Or.inl (hw _ wd_187)) (by decide) (t := (.array (.object "java/lang/StackTraceElement"))) (t' := (.object "java/util/List")) (by decide) (by decide))))
  have F16 := (((F_x0.other W2 (Or.inr (slot_ne (Or.inl (hw _ wd_212)) (Or.inl (hw _ wd_181)) (by decide) (t := (.object "java/lang/Object")) (t' := (.object "java/lang/Throwable")) (by decide) (by decide)))).other W6 (Or.inr (slot_ne (Or.inl (hw _ wd_212)) (Or.inl (hw _ wd_184)) (by decide) (t := (.object "java/lang/Object")) (t' := (.array (.object "java/lang/StackTraceElement"))) (by decide) (by decide)))).other W11 (Or.inr (slot_ne (Or.inl (hw _ wd_212)) (Or.inl (hw _ wd_187)) (by decide) (t := (.object "java/lang/Object")) (t' := (.object "java/util/List")) (by decide) (by decide))))
  have Sf18 := ((CHr.wr W11 Sf12 X8.chv)).safe (E10).lt Sf12
  refine X11.fill (by rw [hl]; exact hst) (rc := "com/example/yusen/yusen/figures/TermFileException") i27_24 (own_thrW hw) (hw _ wd_46) hT0 hKn hFK E13 U14 F15 F16 hus g_x Sf18 rfl (W := 0) rfl (by decide) (by decide) (k' := 1) rfl (n' := 2752) rfl (by decide) (by decide) fun T17 h17a h17b h17c h17 b17 d17 X17 E17 W17a W17b W17c => ?_
  refine X17.pop i27_27 rfl ?_
  refine X17.aload_n i27_28 rfl rfl ?_
  refine X17.aload_n i27_29 rfl rfl ?_
  have F19 := (((((((F_x1.other W2 (Or.inr (slot_ne (Or.inl (hw _ wd_211)) (Or.inl (hw _ wd_181)) (by decide) (t := (.object "java/lang/String")) (t' := (.object "java/lang/Throwable")) (by decide) (by decide)))).other W6 (Or.inr (slot_ne (Or.inl (hw _ wd_211)) (Or.inl (hw _ wd_184)) (by decide) (t := (.object "java/lang/String")) (t' := (.array (.object "java/lang/StackTraceElement"))) (by decide) (by decide)))).other W11 (Or.inr (slot_ne (Or.inl (hw _ wd_211)) (Or.inl (hw _ wd_187)) (by decide) (t := (.object "java/lang/String")) (t' := (.object "java/util/List")) (by decide) (by decide)))).ext E17).other W17a (Or.inr (slot_ne (Or.inl (hw _ wd_211)) (Or.inl (hw _ wd_212)) (by decide) (t := (.object "java/lang/String")) (t' := (.object "java/lang/Object")) (by decide) (by decide)))).other W17b (Or.inr (slot_ne (Or.inl (hw _ wd_211)) (Or.inl (hw _ wd_213)) (by decide) (t := (.object "java/lang/String")) (t' := .int) (by decide) (by decide)))).other W17c (Or.inr (slot_ne (Or.inl (hw _ wd_211)) (Or.inl (hw _ wd_184)) (by decide) (t := (.object "java/lang/String")) (t' := (.array (.object "java/lang/StackTraceElement"))) (by decide) (by decide))))
  have E20 := ((((E13.ext E17).wr W17a).wr W17b).wr W17c)
  refine X17.putfield i27_30 (hw _ wd_215) Via.refl F19 E20 (Or.inl (hw _ wd_211)) (hw _ wd_46) (ty := (.object "java/lang/String")) (by decide) rfl rfl g_x (Safe.exa X17.zw.alike E20 (by decide) (by decide)) fun T21 h21 X21 W21 => ?_
  have E22 := (E20.wr W21)
  have U23 := (((((U14.ext E17).wr W17a).wr W17b).wr W17c).wr W21)
  have F24 := ((((((((F_x2.same W2).other W6 (Or.inr (slot_ne (Or.inl (hw _ wd_181)) (Or.inl (hw _ wd_184)) (by decide) (t := (.object "java/lang/Throwable")) (t' := (.array (.object "java/lang/StackTraceElement"))) (by decide) (by decide)))).other W11 (Or.inr (slot_ne (Or.inl (hw _ wd_181)) (Or.inl (hw _ wd_187)) (by decide) (t := (.object "java/lang/Throwable")) (t' := (.object "java/util/List")) (by decide) (by decide)))).ext E17).other W17a (Or.inr (slot_ne (Or.inl (hw _ wd_181)) (Or.inl (hw _ wd_212)) (by decide) (t := (.object "java/lang/Throwable")) (t' := (.object "java/lang/Object")) (by decide) (by decide)))).other W17b (Or.inr (slot_ne (Or.inl (hw _ wd_181)) (Or.inl (hw _ wd_213)) (by decide) (t := (.object "java/lang/Throwable")) (t' := .int) (by decide) (by decide)))).other W17c (Or.inr (slot_ne (Or.inl (hw _ wd_181)) (Or.inl (hw _ wd_184)) (by decide) (t := (.object "java/lang/Throwable")) (t' := (.array (.object "java/lang/StackTraceElement"))) (by decide) (by decide)))).other W21 (Or.inr (slot_ne (Or.inl (hw _ wd_181)) (Or.inl (hw _ wd_211)) (by decide) (t := (.object "java/lang/Throwable")) (t' := (.object "java/lang/String")) (by decide) (by decide))))
  exact X21.ret i27_33 rfl (by decide) (by decide) (fun sf hsf => ⟨rfl, (((((((((Keep.refl _ [x]).wr W2 (Or.inl (List.mem_of_getElem? (i := 0) rfl))).wr W6 (Or.inl (List.mem_of_getElem? (i := 0) rfl))).wr W11 (Or.inl (List.mem_of_getElem? (i := 0) rfl))).ext E17).wr W17a (Or.inl (List.mem_of_getElem? (i := 0) rfl))).wr W17b (Or.inl (List.mem_of_getElem? (i := 0) rfl))).wr W17c (Or.inl (List.mem_of_getElem? (i := 0) rfl))).wr W21 (Or.inl (List.mem_of_getElem? (i := 0) rfl))), E22, U23, (F19.same W21), F24⟩)
set_option maxRecDepth 65536 in
set_option maxHeartbeats 40000000 in
theorem c_ex (l : Launch) {Z : State} {a0 : Array Value} {n0 : Nat} (hw : ∀ d ∈ tables_1, d.before a0 Z = true) (hEL : EW Z a0 own_EL) {zc : Int32} (hcs : Sta Z Z.heap "java/lang/String" "COMPACT_STRINGS" "Z" (.int zc)) (hcz : ¬ zc = 0) {fm : Value} (hfm : Sta Z Z.heap "jdk/internal/util/Preconditions" "SIOOBE_FORMATTER" "Ljava/util/function/BiFunction;" fm) (hfr : fm.isRef = true) (hst : l.stackTraces = true) (hKn : Z.vm.MethodsKnown) {us ss : Addr} (hus : Sta Z Z.heap "java/lang/Throwable" "UNASSIGNED_STACK" "[Ljava/lang/StackTraceElement;" (.ref us)) (hss : Sta Z Z.heap "java/lang/Throwable" "SUPPRESSED_SENTINEL" "Ljava/util/List;" (.ref ss)) {h : Heap} (hO : Old Z n0 h) (x : Addr) (m : Addr) (E_x : Exa Z h x "com/example/yusen/yusen/figures/TermFileException") (U_x : Unt h x) (g_x : n0 ≤ x) (F_x0 : Fld Z h x "java/lang/Throwable" "backtrace" "Ljava/lang/Object;" .null) (F_x1 : Fld Z h x "java/lang/Throwable" "detailMessage" "Ljava/lang/String;" .null) (F_x2 : Fld Z h x "java/lang/Throwable" "cause" "Ljava/lang/Throwable;" .null) (F_x3 : Fld Z h x "java/lang/Throwable" "stackTrace" "[Ljava/lang/StackTraceElement;" .null) (F_x4 : Fld Z h x "java/lang/Throwable" "suppressedExceptions" "Ljava/util/List;" .null) :
    ConK [] false l Z own_EL n0 [x] (⟨"java/lang/Exception", "<init>", "(Ljava/lang/String;)V"⟩ : MethodName) jdk_59_method_2_code 2 none ({ frames := 4, cells := 1, slots := 2752, locals := 55 } : Room) #[(.ref x), (.ref m)] h (fun v h' sf => v = none ∧ Keep h h' [x] ∧ Exa Z h' x "com/example/yusen/yusen/figures/TermFileException" ∧ Unt h' x ∧ Fld Z h' x "java/lang/Throwable" "detailMessage" "Ljava/lang/String;" (.ref m) ∧ Fld Z h' x "java/lang/Throwable" "cause" "Ljava/lang/Throwable;" (.ref x)) := by
  refine Con.introK (Ls := #[.val (.ref x), .val (.ref m)]) pn28 hEL hO (fun m => by first | rfl | (simp [entryFrame, mkF, argsToLocals, Value.category]; done)) fun C vm T hl X hs hT0 hFK => ?_
  have X : On C ({ frames := 4, cells := 1, slots := 2752, locals := 55 } : Room) "java/lang/Exception" jdk_59_method_2_code 2 none "<init>" false Z a0 own_EL n0 vm T h 0 0 := X
  have sf_x := hs x (List.mem_of_getElem? (i := 0) rfl)
  refine X.aload_n i28_0 rfl rfl ?_
  refine X.aload_n i28_1 rfl rfl ?_
  refine X.callIK hl hKn hFK (argsL := [(.ref m)]) (a := x) i28_2 (c_th l hw hEL hcs hcz hfm hfr hst hKn hus hss X.old x m E_x U_x g_x F_x0 F_x1 F_x2 F_x3 F_x4) (hw _ wd_173) (hw _ wd_174) (hw _ wd_177) (hw _ wd_178) rfl (by decide) (sf_cons ⟨sf_x, (E_x).lt⟩ sf_nil) pd1 rfl rfl rfl (W := 0) rfl (by decide) (by decide) (k' := 1) rfl (n' := 2752) rfl (by decide) (by decide) fun vm1 T1 h1 v1 X1 r1 Q1 => ?_
  obtain ⟨rfl, q1_0, q1_1, q1_2, q1_3, q1_4⟩ := Q1
  show Go _ _ _ _ _ _ _ T1 5 #[.val (.ref x), .val (.ref m)] []
  exact X1.ret i28_5 rfl (by decide) (by decide) (fun sf hsf => ⟨rfl, ((Keep.refl _ [x]).trans q1_0 (allS (Or.inl (List.mem_of_getElem? (i := 0) rfl)) all0)), q1_1, q1_2, q1_3, q1_4⟩)
set_option maxRecDepth 65536 in
set_option maxHeartbeats 40000000 in
theorem c_ix (l : Launch) {Z : State} {a0 : Array Value} {n0 : Nat} (hw : ∀ d ∈ tables_1, d.before a0 Z = true) (hEL : EW Z a0 own_EL) {zc : Int32} (hcs : Sta Z Z.heap "java/lang/String" "COMPACT_STRINGS" "Z" (.int zc)) (hcz : ¬ zc = 0) {fm : Value} (hfm : Sta Z Z.heap "jdk/internal/util/Preconditions" "SIOOBE_FORMATTER" "Ljava/util/function/BiFunction;" fm) (hfr : fm.isRef = true) (hst : l.stackTraces = true) (hKn : Z.vm.MethodsKnown) {us ss : Addr} (hus : Sta Z Z.heap "java/lang/Throwable" "UNASSIGNED_STACK" "[Ljava/lang/StackTraceElement;" (.ref us)) (hss : Sta Z Z.heap "java/lang/Throwable" "SUPPRESSED_SENTINEL" "Ljava/util/List;" (.ref ss)) {h : Heap} (hO : Old Z n0 h) (x : Addr) (m : Addr) (E_x : Exa Z h x "com/example/yusen/yusen/figures/TermFileException") (U_x : Unt h x) (g_x : n0 ≤ x) (F_x0 : Fld Z h x "java/lang/Throwable" "backtrace" "Ljava/lang/Object;" .null) (F_x1 : Fld Z h x "java/lang/Throwable" "detailMessage" "Ljava/lang/String;" .null) (F_x2 : Fld Z h x "java/lang/Throwable" "cause" "Ljava/lang/Throwable;" .null) (F_x3 : Fld Z h x "java/lang/Throwable" "stackTrace" "[Ljava/lang/StackTraceElement;" .null) (F_x4 : Fld Z h x "java/lang/Throwable" "suppressedExceptions" "Ljava/util/List;" .null) :
    ConK [] false l Z own_EL n0 [x] (⟨"com/example/yusen/yusen/figures/InputException", "<init>", "(Ljava/lang/String;)V"⟩ : MethodName) prog_17_method_1_code 2 none ({ frames := 5, cells := 1, slots := 2752, locals := 68 } : Room) #[(.ref x), (.ref m)] h (fun v h' sf => v = none ∧ Keep h h' [x] ∧ Exa Z h' x "com/example/yusen/yusen/figures/TermFileException" ∧ Unt h' x ∧ Fld Z h' x "java/lang/Throwable" "detailMessage" "Ljava/lang/String;" (.ref m) ∧ Fld Z h' x "java/lang/Throwable" "cause" "Ljava/lang/Throwable;" (.ref x)) := by
  refine Con.introK (Ls := #[.val (.ref x), .val (.ref m)]) pn29 hEL hO (fun m => by first | rfl | (simp [entryFrame, mkF, argsToLocals, Value.category]; done)) fun C vm T hl X hs hT0 hFK => ?_
  have X : On C ({ frames := 5, cells := 1, slots := 2752, locals := 68 } : Room) "com/example/yusen/yusen/figures/InputException" prog_17_method_1_code 2 none "<init>" false Z a0 own_EL n0 vm T h 0 0 := X
  have sf_x := hs x (List.mem_of_getElem? (i := 0) rfl)
  refine X.aload_n i29_0 rfl rfl ?_
  refine X.aload_n i29_1 rfl rfl ?_
  refine X.callIK hl hKn hFK (argsL := [(.ref m)]) (a := x) i29_2 (c_ex l hw hEL hcs hcz hfm hfr hst hKn hus hss X.old x m E_x U_x g_x F_x0 F_x1 F_x2 F_x3 F_x4) (hw _ wd_168) (hw _ wd_169) (hw _ wd_171) (hw _ wd_172) rfl (by decide) (sf_cons ⟨sf_x, (E_x).lt⟩ sf_nil) pd1 rfl rfl rfl (W := 0) rfl (by decide) (by decide) (k' := 1) rfl (n' := 2752) rfl (by decide) (by decide) fun vm1 T1 h1 v1 X1 r1 Q1 => ?_
  obtain ⟨rfl, q1_0, q1_1, q1_2, q1_3, q1_4⟩ := Q1
  show Go _ _ _ _ _ _ _ T1 5 #[.val (.ref x), .val (.ref m)] []
  exact X1.ret i29_5 rfl (by decide) (by decide) (fun sf hsf => ⟨rfl, ((Keep.refl _ [x]).trans q1_0 (allS (Or.inl (List.mem_of_getElem? (i := 0) rfl)) all0)), q1_1, q1_2, q1_3, q1_4⟩)
set_option maxRecDepth 65536 in
set_option maxHeartbeats 40000000 in
theorem c_tx (l : Launch) {Z : State} {a0 : Array Value} {n0 : Nat} (hw : ∀ d ∈ tables_1, d.before a0 Z = true) (hEL : EW Z a0 own_EL) {zc : Int32} (hcs : Sta Z Z.heap "java/lang/String" "COMPACT_STRINGS" "Z" (.int zc)) (hcz : ¬ zc = 0) {fm : Value} (hfm : Sta Z Z.heap "jdk/internal/util/Preconditions" "SIOOBE_FORMATTER" "Ljava/util/function/BiFunction;" fm) (hfr : fm.isRef = true) (hst : l.stackTraces = true) (hKn : Z.vm.MethodsKnown) {us ss : Addr} (hus : Sta Z Z.heap "java/lang/Throwable" "UNASSIGNED_STACK" "[Ljava/lang/StackTraceElement;" (.ref us)) (hss : Sta Z Z.heap "java/lang/Throwable" "SUPPRESSED_SENTINEL" "Ljava/util/List;" (.ref ss)) {h : Heap} (hO : Old Z n0 h) (x : Addr) (s1 : Addr) (t1 : Addr) (k1 : ClassId) (A : List Int32) (s2 : Addr) (t2 : Addr) (k2 : ClassId) (B : List Int32) (s3 : Addr) (t3 : Addr) (k3 : ClassId) (D : List Int32) (E_x : Exa Z h x "com/example/yusen/yusen/figures/TermFileException") (U_x : Unt h x) (g_x : n0 ≤ x) (F_x0 : Fld Z h x "java/lang/Throwable" "backtrace" "Ljava/lang/Object;" .null) (F_x1 : Fld Z h x "java/lang/Throwable" "detailMessage" "Ljava/lang/String;" .null) (F_x2 : Fld Z h x "java/lang/Throwable" "cause" "Ljava/lang/Throwable;" .null) (F_x3 : Fld Z h x "java/lang/Throwable" "stackTrace" "[Ljava/lang/StackTraceElement;" .null) (F_x4 : Fld Z h x "java/lang/Throwable" "suppressedExceptions" "Ljava/util/List;" .null) (S_1 : Str Z h s1 t1 k1 A) (S_2 : Str Z h s2 t2 k2 B) (S_3 : Str Z h s3 t3 k3 D) (hA : A.length ≤ 2) (hB : B.length ≤ 2) (hD : D.length ≤ 2) :
    ConK [] false l Z own_EL n0 [x] (⟨"com/example/yusen/yusen/figures/TermFileException", "<init>", "(Ljava/lang/String;Ljava/lang/String;Ljava/lang/String;)V"⟩ : MethodName) prog_22_method_1_code 4 none ({ frames := 6, cells := 9, slots := 2816, locals := 92 } : Room) #[(.ref x), (.ref s1), (.ref s2), (.ref s3)] h (fun v h' sf => ∃ (m : Addr) (tm : Addr) (km : ClassId), v = none ∧ Keep h h' [x] ∧ Exa Z h' x "com/example/yusen/yusen/figures/TermFileException" ∧ Unt h' x ∧ Fld Z h' x "java/lang/Throwable" "detailMessage" "Ljava/lang/String;" (.ref m) ∧ Fld Z h' x "java/lang/Throwable" "cause" "Ljava/lang/Throwable;" (.ref x) ∧ Str Z h' m tm km (((((([] : List Int32) ++ A) ++ [(58 : Int32), (32 : Int32)]) ++ B) ++ [(58 : Int32), (32 : Int32)]) ++ D)) := by
  refine Con.introK (Ls := #[.val (.ref x), .val (.ref s1), .val (.ref s2), .val (.ref s3)]) pn30 hEL hO (fun m => by first | rfl | (simp [entryFrame, mkF, argsToLocals, Value.category]; done)) fun C vm T hl X hs hT0 hFK => ?_
  have X : On C ({ frames := 6, cells := 9, slots := 2816, locals := 92 } : Room) "com/example/yusen/yusen/figures/TermFileException" prog_22_method_1_code 4 none "<init>" false Z a0 own_EL n0 vm T h 0 0 := X
  have sf_x := hs x (List.mem_of_getElem? (i := 0) rfl)
  refine X.aload_n i30_0 rfl rfl ?_
  refine X.new i30_1 (hw _ wd_51) (hw _ wd_52) (hw _ wd_53) (k' := 1) rfl (n' := 4) rfl (by decide) (by decide) fun T1 h1 a1 X1 E1 z1 g1 A1 D1 U1 Sf1 => ?_
  refine X1.dup i30_4 rfl ?_
  have F2 : Fld Z h1 a1 "java/lang/AbstractStringBuilder" "value" "[B" .null := D1 (Or.inl (hw _ wd_66)) (ty := (.array .byte)) (by decide)
  have F3 : Fld Z h1 a1 "java/lang/AbstractStringBuilder" "coder" "B" (.int (0 : Int32)) := D1 (Or.inl (hw _ wd_68)) (ty := .byte) (by decide)
  have F4 : Fld Z h1 a1 "java/lang/AbstractStringBuilder" "count" "I" (.int (0 : Int32)) := D1 (Or.inl (hw _ wd_91)) (ty := .int) (by decide)
  refine X1.callI hl (argsL := []) (a := a1) i30_5 (c_sbi l hw hEL hcs hcz hfm hfr hst hKn hus hss X1.old a1 A1 g1 F2 F3 F4) (hw _ wd_54) (hw _ wd_55) (hw _ wd_53) (hw _ wd_56) rfl (by decide) sf_nil pd17 rfl rfl rfl (W := 2) rfl (by decide) (by decide) (k' := 2) rfl (n' := 20) rfl (by decide) (by decide) fun vm5 T5 h5 v5 X5 r5 Q5 => ?_
  obtain ⟨ar_5, ka_5, rfl, q5_0, q5_1, q5_2, q5_3, q5_4, q5_5, q5_6⟩ := Q5
  have g6 := Nat.le_trans X1.n0le q5_1
  show Go _ _ _ _ _ _ _ T5 8 #[.val (.ref x), .val (.ref s1), .val (.ref s2), .val (.ref s3)] [(.ref a1), (.ref x)]
  refine X5.aload_n i30_8 rfl rfl ?_
  have S7 := ((S_1.ext E1).keep q5_0 (ninS (Nat.ne_of_lt (Nat.lt_of_lt_of_le (S_1).lt (Nat.le_of_eq z1))) nin0) (ninS (Nat.ne_of_lt (Nat.lt_of_lt_of_le (S_1).ltT (Nat.le_of_eq z1))) nin0))
  have E8 := (A1.keep q5_0)
  refine X5.callV hl (argsL := [(.ref s1)]) (a := a1) i30_9 (c_app l hw hEL hcs hcz hfm hfr hst hKn hus hss X5.old a1 s1 t1 k1 A ar_5 ka_5 ([] : List Int32) S7 E8 g1 g6 q5_2 q5_3 q5_4 q5_5 (by have := hA; have := hB; have := hD; simp only [List.length_append, List.length_cons, List.length_nil, List.nil_append]; omega) (by have := hA; have := hB; have := hD; simp only [List.length_append, List.length_cons, List.length_nil, List.nil_append]; omega) (Nat.ne_of_lt (Nat.lt_of_lt_of_le (F2).lt q5_1))) E8 (hw _ wd_69) (hw _ wd_70) (hw _ wd_72) (nfSel X5.zw (hw _ wd_72)) (hw _ wd_71) (hw _ wd_53) (hw _ wd_73) (by decide) (sf_cons ⟨q5_6, (q5_5).lt⟩ sf_nil) pd18 rfl rfl rfl (W := 1) rfl (by decide) (by decide) (k' := 2) rfl (n' := 20) rfl (by decide) (by decide) fun vm9 T9 h9 v9 X9 r9 Q9 => ?_
  obtain ⟨rfl, q9_0, q9_1, q9_2, q9_3, q9_4, q9_5⟩ := Q9
  show Go _ _ _ _ _ _ _ T9 12 #[.val (.ref x), .val (.ref s1), .val (.ref s2), .val (.ref s3)] [(.ref a1), (.ref x)]
  refine X9.ldcS rfl (cs := [(58 : Int32), (32 : Int32)]) i30_12 (hw _ wd_117) (own_wS hw) (List.mem_of_getElem? (i := 0) rfl) lt1_a lt1_b lt1_c (Nat.le_of_ble_eq_true rfl) (nn := 8) (Nat.le_of_eq lt1_d) (by decide) (k' := 4) rfl (n' := 32) rfl (by decide) (by decide) fun vm10 T10 h10 a10 t10 b10 X10 E10 r10 S10 ne10 => ?_
  have E11 := ((E8.keep q9_0).ext E10)
  have F12 := (q9_1.ext E10)
  have F13 := (q9_2.ext E10)
  have F14 := (q9_3.ext E10)
  have V15 := (q9_4.ext E10)
  have Sf17 := (r10).safe (q9_4).lt q9_5
  refine X10.callV hl (argsL := [(.ref a10)]) (a := a1) i30_14 (c_app l hw hEL hcs hcz hfm hfr hst hKn hus hss X10.old a1 a10 t10 b10 [(58 : Int32), (32 : Int32)] ar_5 ka_5 (([] : List Int32) ++ A) S10 E11 g1 g6 F12 F13 F14 V15 (by have := hA; have := hB; have := hD; simp only [List.length_append, List.length_cons, List.length_nil, List.nil_append]; omega) (by have := hA; have := hB; have := hD; simp only [List.length_append, List.length_cons, List.length_nil, List.nil_append]; omega) (Nat.ne_of_lt (Nat.lt_of_lt_of_le (F2).lt q5_1))) E11 (hw _ wd_69) (hw _ wd_70) (hw _ wd_72) (nfSel X10.zw (hw _ wd_72)) (hw _ wd_71) (hw _ wd_53) (hw _ wd_73) (by decide) (sf_cons ⟨Sf17, (V15).lt⟩ sf_nil) pd18 rfl rfl rfl (W := 1) rfl (by decide) (by decide) (k' := 4) rfl (n' := 32) rfl (by decide) (by decide) fun vm16 T16 h16 v16 X16 r16 Q16 => ?_
  obtain ⟨rfl, q16_0, q16_1, q16_2, q16_3, q16_4, q16_5⟩ := Q16
  show Go _ _ _ _ _ _ _ T16 17 #[.val (.ref x), .val (.ref s1), .val (.ref s2), .val (.ref s3)] [(.ref a1), (.ref x)]
  refine X16.aload_n i30_17 rfl rfl ?_
  have S18 := (((((S_2.ext E1).keep q5_0 (ninS (Nat.ne_of_lt (Nat.lt_of_lt_of_le (S_2).lt (Nat.le_of_eq z1))) nin0) (ninS (Nat.ne_of_lt (Nat.lt_of_lt_of_le (S_2).ltT (Nat.le_of_eq z1))) nin0)).keep q9_0 (ninS (Nat.ne_of_lt (Nat.lt_of_lt_of_le (S_2).lt (Nat.le_of_eq z1))) (ninS (Nat.ne_of_lt (Nat.lt_of_lt_of_le (Nat.lt_of_lt_of_le (S_2).lt E1.1) q5_1)) nin0)) (ninS (Nat.ne_of_lt (Nat.lt_of_lt_of_le (S_2).ltT (Nat.le_of_eq z1))) (ninS (Nat.ne_of_lt (Nat.lt_of_lt_of_le (Nat.lt_of_lt_of_le (S_2).ltT E1.1) q5_1)) nin0))).ext E10).keep q16_0 (ninS (Nat.ne_of_lt (Nat.lt_of_lt_of_le (S_2).lt (Nat.le_of_eq z1))) (ninS (Nat.ne_of_lt (Nat.lt_of_lt_of_le (Nat.lt_of_lt_of_le (S_2).lt E1.1) q5_1)) nin0)) (ninS (Nat.ne_of_lt (Nat.lt_of_lt_of_le (S_2).ltT (Nat.le_of_eq z1))) (ninS (Nat.ne_of_lt (Nat.lt_of_lt_of_le (Nat.lt_of_lt_of_le (S_2).ltT E1.1) q5_1)) nin0)))
  have E19 := (E11.keep q16_0)
  refine X16.callV hl (argsL := [(.ref s2)]) (a := a1) i30_18 (c_app l hw hEL hcs hcz hfm hfr hst hKn hus hss X16.old a1 s2 t2 k2 B ar_5 ka_5 ((([] : List Int32) ++ A) ++ [(58 : Int32), (32 : Int32)]) S18 E19 g1 g6 q16_1 q16_2 q16_3 q16_4 (by have := hA; have := hB; have := hD; simp only [List.length_append, List.length_cons, List.length_nil, List.nil_append]; omega) (by have := hA; have := hB; have := hD; simp only [List.length_append, List.length_cons, List.length_nil, List.nil_append]; omega) (Nat.ne_of_lt (Nat.lt_of_lt_of_le (F2).lt q5_1))) E19 (hw _ wd_69) (hw _ wd_70) (hw _ wd_72) (nfSel X16.zw (hw _ wd_72)) (hw _ wd_71) (hw _ wd_53) (hw _ wd_73) (by decide) (sf_cons ⟨q16_5, (q16_4).lt⟩ sf_nil) pd18 rfl rfl rfl (W := 1) rfl (by decide) (by decide) (k' := 4) rfl (n' := 32) rfl (by decide) (by decide) fun vm20 T20 h20 v20 X20 r20 Q20 => ?_
  obtain ⟨rfl, q20_0, q20_1, q20_2, q20_3, q20_4, q20_5⟩ := Q20
  show Go _ _ _ _ _ _ _ T20 21 #[.val (.ref x), .val (.ref s1), .val (.ref s2), .val (.ref s3)] [(.ref a1), (.ref x)]
  refine X20.ldcS rfl (cs := [(58 : Int32), (32 : Int32)]) i30_21 (hw _ wd_117) (own_wS hw) (List.mem_of_getElem? (i := 0) rfl) lt1_a lt1_b lt1_c (Nat.le_of_ble_eq_true rfl) (nn := 8) (Nat.le_of_eq lt1_d) (by decide) (k' := 6) rfl (n' := 44) rfl (by decide) (by decide) fun vm21 T21 h21 a21 t21 b21 X21 E21 r21 S21 ne21 => ?_
  have E22 := ((E19.keep q20_0).ext E21)
  have F23 := (q20_1.ext E21)
  have F24 := (q20_2.ext E21)
  have F25 := (q20_3.ext E21)
  have V26 := (q20_4.ext E21)
  have Sf28 := (r21).safe (q20_4).lt q20_5
  refine X21.callV hl (argsL := [(.ref a21)]) (a := a1) i30_23 (c_app l hw hEL hcs hcz hfm hfr hst hKn hus hss X21.old a1 a21 t21 b21 [(58 : Int32), (32 : Int32)] ar_5 ka_5 (((([] : List Int32) ++ A) ++ [(58 : Int32), (32 : Int32)]) ++ B) S21 E22 g1 g6 F23 F24 F25 V26 (by have := hA; have := hB; have := hD; simp only [List.length_append, List.length_cons, List.length_nil, List.nil_append]; omega) (by have := hA; have := hB; have := hD; simp only [List.length_append, List.length_cons, List.length_nil, List.nil_append]; omega) (Nat.ne_of_lt (Nat.lt_of_lt_of_le (F2).lt q5_1))) E22 (hw _ wd_69) (hw _ wd_70) (hw _ wd_72) (nfSel X21.zw (hw _ wd_72)) (hw _ wd_71) (hw _ wd_53) (hw _ wd_73) (by decide) (sf_cons ⟨Sf28, (V26).lt⟩ sf_nil) pd18 rfl rfl rfl (W := 1) rfl (by decide) (by decide) (k' := 6) rfl (n' := 44) rfl (by decide) (by decide) fun vm27 T27 h27 v27 X27 r27 Q27 => ?_
  obtain ⟨rfl, q27_0, q27_1, q27_2, q27_3, q27_4, q27_5⟩ := Q27
  show Go _ _ _ _ _ _ _ T27 26 #[.val (.ref x), .val (.ref s1), .val (.ref s2), .val (.ref s3)] [(.ref a1), (.ref x)]
  refine X27.aload_n i30_26 rfl rfl ?_
  have S29 := ((((((((S_3.ext E1).keep q5_0 (ninS (Nat.ne_of_lt (Nat.lt_of_lt_of_le (S_3).lt (Nat.le_of_eq z1))) nin0) (ninS (Nat.ne_of_lt (Nat.lt_of_lt_of_le (S_3).ltT (Nat.le_of_eq z1))) nin0)).keep q9_0 (ninS (Nat.ne_of_lt (Nat.lt_of_lt_of_le (S_3).lt (Nat.le_of_eq z1))) (ninS (Nat.ne_of_lt (Nat.lt_of_lt_of_le (Nat.lt_of_lt_of_le (S_3).lt E1.1) q5_1)) nin0)) (ninS (Nat.ne_of_lt (Nat.lt_of_lt_of_le (S_3).ltT (Nat.le_of_eq z1))) (ninS (Nat.ne_of_lt (Nat.lt_of_lt_of_le (Nat.lt_of_lt_of_le (S_3).ltT E1.1) q5_1)) nin0))).ext E10).keep q16_0 (ninS (Nat.ne_of_lt (Nat.lt_of_lt_of_le (S_3).lt (Nat.le_of_eq z1))) (ninS (Nat.ne_of_lt (Nat.lt_of_lt_of_le (Nat.lt_of_lt_of_le (S_3).lt E1.1) q5_1)) nin0)) (ninS (Nat.ne_of_lt (Nat.lt_of_lt_of_le (S_3).ltT (Nat.le_of_eq z1))) (ninS (Nat.ne_of_lt (Nat.lt_of_lt_of_le (Nat.lt_of_lt_of_le (S_3).ltT E1.1) q5_1)) nin0))).keep q20_0 (ninS (Nat.ne_of_lt (Nat.lt_of_lt_of_le (S_3).lt (Nat.le_of_eq z1))) (ninS (Nat.ne_of_lt (Nat.lt_of_lt_of_le (Nat.lt_of_lt_of_le (S_3).lt E1.1) q5_1)) nin0)) (ninS (Nat.ne_of_lt (Nat.lt_of_lt_of_le (S_3).ltT (Nat.le_of_eq z1))) (ninS (Nat.ne_of_lt (Nat.lt_of_lt_of_le (Nat.lt_of_lt_of_le (S_3).ltT E1.1) q5_1)) nin0))).ext E21).keep q27_0 (ninS (Nat.ne_of_lt (Nat.lt_of_lt_of_le (S_3).lt (Nat.le_of_eq z1))) (ninS (Nat.ne_of_lt (Nat.lt_of_lt_of_le (Nat.lt_of_lt_of_le (S_3).lt E1.1) q5_1)) nin0)) (ninS (Nat.ne_of_lt (Nat.lt_of_lt_of_le (S_3).ltT (Nat.le_of_eq z1))) (ninS (Nat.ne_of_lt (Nat.lt_of_lt_of_le (Nat.lt_of_lt_of_le (S_3).ltT E1.1) q5_1)) nin0)))
  have E30 := (E22.keep q27_0)
  refine X27.callV hl (argsL := [(.ref s3)]) (a := a1) i30_27 (c_app l hw hEL hcs hcz hfm hfr hst hKn hus hss X27.old a1 s3 t3 k3 D ar_5 ka_5 ((((([] : List Int32) ++ A) ++ [(58 : Int32), (32 : Int32)]) ++ B) ++ [(58 : Int32), (32 : Int32)]) S29 E30 g1 g6 q27_1 q27_2 q27_3 q27_4 (by have := hA; have := hB; have := hD; simp only [List.length_append, List.length_cons, List.length_nil, List.nil_append]; omega) (by have := hA; have := hB; have := hD; simp only [List.length_append, List.length_cons, List.length_nil, List.nil_append]; omega) (Nat.ne_of_lt (Nat.lt_of_lt_of_le (F2).lt q5_1))) E30 (hw _ wd_69) (hw _ wd_70) (hw _ wd_72) (nfSel X27.zw (hw _ wd_72)) (hw _ wd_71) (hw _ wd_53) (hw _ wd_73) (by decide) (sf_cons ⟨q27_5, (q27_4).lt⟩ sf_nil) pd18 rfl rfl rfl (W := 1) rfl (by decide) (by decide) (k' := 6) rfl (n' := 44) rfl (by decide) (by decide) fun vm31 T31 h31 v31 X31 r31 Q31 => ?_
  obtain ⟨rfl, q31_0, q31_1, q31_2, q31_3, q31_4, q31_5⟩ := Q31
  show Go _ _ _ _ _ _ _ T31 30 #[.val (.ref x), .val (.ref s1), .val (.ref s2), .val (.ref s3)] [(.ref a1), (.ref x)]
  have E32 := (E30.keep q31_0)
  refine X31.callV hl (argsL := []) (a := a1) i30_30 (c_tos l hw hEL hcs hcz hfm hfr hst hKn hus hss X31.old a1 ar_5 ka_5 (((((([] : List Int32) ++ A) ++ [(58 : Int32), (32 : Int32)]) ++ B) ++ [(58 : Int32), (32 : Int32)]) ++ D) E32 q31_1 q31_2 q31_3 q31_4 (by have := hA; have := hB; have := hD; simp only [List.length_append, List.length_cons, List.length_nil, List.nil_append]; omega) (own_lapp (own_lapp (own_lapp (own_lapp (own_lapp own_all0 S_1.2.2.2.2) lt1_c) S_2.2.2.2.2) lt1_c) S_3.2.2.2.2)) E32 (hw _ wd_118) (hw _ wd_119) (hw _ wd_121) (nfSel X31.zw (hw _ wd_121)) (hw _ wd_120) (hw _ wd_53) (hw _ wd_122) (by decide) sf_nil pd19 rfl rfl rfl (W := 1) rfl (by decide) (by decide) (k' := 8) rfl (n' := 64) rfl (by decide) (by decide) fun vm33 T33 h33 v33 X33 r33 Q33 => ?_
  obtain ⟨x_33, t_33, kt_33, rfl, q33_0, q33_1, q33_2, q33_3⟩ := Q33
  have g34 := Nat.le_trans X31.n0le q33_1
  have g35 := Nat.le_trans X31.n0le q33_3
  show Go _ _ _ _ _ _ _ T33 33 #[.val (.ref x), .val (.ref s1), .val (.ref s2), .val (.ref s3)] [(.ref x_33), (.ref x)]
  have E36 := ((((((((((E_x.ext E1).keep q5_0).keep q9_0).ext E10).keep q16_0).keep q20_0).ext E21).keep q27_0).keep q31_0).ext q33_0)
  have U37 := ((Unt.keep q31_0 (ninS (Nat.ne_of_lt (Nat.lt_of_lt_of_le (E_x).lt (Nat.le_of_eq z1))) (ninS (Nat.ne_of_lt (Nat.lt_of_lt_of_le (Nat.lt_of_lt_of_le (E_x).lt E1.1) q5_1)) nin0)) (Unt.keep q27_0 (ninS (Nat.ne_of_lt (Nat.lt_of_lt_of_le (E_x).lt (Nat.le_of_eq z1))) (ninS (Nat.ne_of_lt (Nat.lt_of_lt_of_le (Nat.lt_of_lt_of_le (E_x).lt E1.1) q5_1)) nin0)) ((Unt.keep q20_0 (ninS (Nat.ne_of_lt (Nat.lt_of_lt_of_le (E_x).lt (Nat.le_of_eq z1))) (ninS (Nat.ne_of_lt (Nat.lt_of_lt_of_le (Nat.lt_of_lt_of_le (E_x).lt E1.1) q5_1)) nin0)) (Unt.keep q16_0 (ninS (Nat.ne_of_lt (Nat.lt_of_lt_of_le (E_x).lt (Nat.le_of_eq z1))) (ninS (Nat.ne_of_lt (Nat.lt_of_lt_of_le (Nat.lt_of_lt_of_le (E_x).lt E1.1) q5_1)) nin0)) ((Unt.keep q9_0 (ninS (Nat.ne_of_lt (Nat.lt_of_lt_of_le (E_x).lt (Nat.le_of_eq z1))) (ninS (Nat.ne_of_lt (Nat.lt_of_lt_of_le (Nat.lt_of_lt_of_le (E_x).lt E1.1) q5_1)) nin0)) (Unt.keep q5_0 (ninS (Nat.ne_of_lt (Nat.lt_of_lt_of_le (E_x).lt (Nat.le_of_eq z1))) nin0) (U_x.ext E1))).ext E10))).ext E21))).ext q33_0)
  have F38 := ((((((((((F_x0.ext E1).keep q5_0 (ninS (Nat.ne_of_lt (Nat.lt_of_lt_of_le (E_x).lt (Nat.le_of_eq z1))) nin0)).keep q9_0 (ninS (Nat.ne_of_lt (Nat.lt_of_lt_of_le (E_x).lt (Nat.le_of_eq z1))) (ninS (Nat.ne_of_lt (Nat.lt_of_lt_of_le (Nat.lt_of_lt_of_le (E_x).lt E1.1) q5_1)) nin0))).ext E10).keep q16_0 (ninS (Nat.ne_of_lt (Nat.lt_of_lt_of_le (E_x).lt (Nat.le_of_eq z1))) (ninS (Nat.ne_of_lt (Nat.lt_of_lt_of_le (Nat.lt_of_lt_of_le (E_x).lt E1.1) q5_1)) nin0))).keep q20_0 (ninS (Nat.ne_of_lt (Nat.lt_of_lt_of_le (E_x).lt (Nat.le_of_eq z1))) (ninS (Nat.ne_of_lt (Nat.lt_of_lt_of_le (Nat.lt_of_lt_of_le (E_x).lt E1.1) q5_1)) nin0))).ext E21).keep q27_0 (ninS (Nat.ne_of_lt (Nat.lt_of_lt_of_le (E_x).lt (Nat.le_of_eq z1))) (ninS (Nat.ne_of_lt (Nat.lt_of_lt_of_le (Nat.lt_of_lt_of_le (E_x).lt E1.1) q5_1)) nin0))).keep q31_0 (ninS (Nat.ne_of_lt (Nat.lt_of_lt_of_le (E_x).lt (Nat.le_of_eq z1))) (ninS (Nat.ne_of_lt (Nat.lt_of_lt_of_le (Nat.lt_of_lt_of_le (E_x).lt E1.1) q5_1)) nin0))).ext q33_0)
  have F39 := ((((((((((F_x1.ext E1).keep q5_0 (ninS (Nat.ne_of_lt (Nat.lt_of_lt_of_le (E_x).lt (Nat.le_of_eq z1))) nin0)).keep q9_0 (ninS (Nat.ne_of_lt (Nat.lt_of_lt_of_le (E_x).lt (Nat.le_of_eq z1))) (ninS (Nat.ne_of_lt (Nat.lt_of_lt_of_le (Nat.lt_of_lt_of_le (E_x).lt E1.1) q5_1)) nin0))).ext E10).keep q16_0 (ninS (Nat.ne_of_lt (Nat.lt_of_lt_of_le (E_x).lt (Nat.le_of_eq z1))) (ninS (Nat.ne_of_lt (Nat.lt_of_lt_of_le (Nat.lt_of_lt_of_le (E_x).lt E1.1) q5_1)) nin0))).keep q20_0 (ninS (Nat.ne_of_lt (Nat.lt_of_lt_of_le (E_x).lt (Nat.le_of_eq z1))) (ninS (Nat.ne_of_lt (Nat.lt_of_lt_of_le (Nat.lt_of_lt_of_le (E_x).lt E1.1) q5_1)) nin0))).ext E21).keep q27_0 (ninS (Nat.ne_of_lt (Nat.lt_of_lt_of_le (E_x).lt (Nat.le_of_eq z1))) (ninS (Nat.ne_of_lt (Nat.lt_of_lt_of_le (Nat.lt_of_lt_of_le (E_x).lt E1.1) q5_1)) nin0))).keep q31_0 (ninS (Nat.ne_of_lt (Nat.lt_of_lt_of_le (E_x).lt (Nat.le_of_eq z1))) (ninS (Nat.ne_of_lt (Nat.lt_of_lt_of_le (Nat.lt_of_lt_of_le (E_x).lt E1.1) q5_1)) nin0))).ext q33_0)
  have F40 := ((((((((((F_x2.ext E1).keep q5_0 (ninS (Nat.ne_of_lt (Nat.lt_of_lt_of_le (E_x).lt (Nat.le_of_eq z1))) nin0)).keep q9_0 (ninS (Nat.ne_of_lt (Nat.lt_of_lt_of_le (E_x).lt (Nat.le_of_eq z1))) (ninS (Nat.ne_of_lt (Nat.lt_of_lt_of_le (Nat.lt_of_lt_of_le (E_x).lt E1.1) q5_1)) nin0))).ext E10).keep q16_0 (ninS (Nat.ne_of_lt (Nat.lt_of_lt_of_le (E_x).lt (Nat.le_of_eq z1))) (ninS (Nat.ne_of_lt (Nat.lt_of_lt_of_le (Nat.lt_of_lt_of_le (E_x).lt E1.1) q5_1)) nin0))).keep q20_0 (ninS (Nat.ne_of_lt (Nat.lt_of_lt_of_le (E_x).lt (Nat.le_of_eq z1))) (ninS (Nat.ne_of_lt (Nat.lt_of_lt_of_le (Nat.lt_of_lt_of_le (E_x).lt E1.1) q5_1)) nin0))).ext E21).keep q27_0 (ninS (Nat.ne_of_lt (Nat.lt_of_lt_of_le (E_x).lt (Nat.le_of_eq z1))) (ninS (Nat.ne_of_lt (Nat.lt_of_lt_of_le (Nat.lt_of_lt_of_le (E_x).lt E1.1) q5_1)) nin0))).keep q31_0 (ninS (Nat.ne_of_lt (Nat.lt_of_lt_of_le (E_x).lt (Nat.le_of_eq z1))) (ninS (Nat.ne_of_lt (Nat.lt_of_lt_of_le (Nat.lt_of_lt_of_le (E_x).lt E1.1) q5_1)) nin0))).ext q33_0)
  have F41 := ((((((((((F_x3.ext E1).keep q5_0 (ninS (Nat.ne_of_lt (Nat.lt_of_lt_of_le (E_x).lt (Nat.le_of_eq z1))) nin0)).keep q9_0 (ninS (Nat.ne_of_lt (Nat.lt_of_lt_of_le (E_x).lt (Nat.le_of_eq z1))) (ninS (Nat.ne_of_lt (Nat.lt_of_lt_of_le (Nat.lt_of_lt_of_le (E_x).lt E1.1) q5_1)) nin0))).ext E10).keep q16_0 (ninS (Nat.ne_of_lt (Nat.lt_of_lt_of_le (E_x).lt (Nat.le_of_eq z1))) (ninS (Nat.ne_of_lt (Nat.lt_of_lt_of_le (Nat.lt_of_lt_of_le (E_x).lt E1.1) q5_1)) nin0))).keep q20_0 (ninS (Nat.ne_of_lt (Nat.lt_of_lt_of_le (E_x).lt (Nat.le_of_eq z1))) (ninS (Nat.ne_of_lt (Nat.lt_of_lt_of_le (Nat.lt_of_lt_of_le (E_x).lt E1.1) q5_1)) nin0))).ext E21).keep q27_0 (ninS (Nat.ne_of_lt (Nat.lt_of_lt_of_le (E_x).lt (Nat.le_of_eq z1))) (ninS (Nat.ne_of_lt (Nat.lt_of_lt_of_le (Nat.lt_of_lt_of_le (E_x).lt E1.1) q5_1)) nin0))).keep q31_0 (ninS (Nat.ne_of_lt (Nat.lt_of_lt_of_le (E_x).lt (Nat.le_of_eq z1))) (ninS (Nat.ne_of_lt (Nat.lt_of_lt_of_le (Nat.lt_of_lt_of_le (E_x).lt E1.1) q5_1)) nin0))).ext q33_0)
  have F42 := ((((((((((F_x4.ext E1).keep q5_0 (ninS (Nat.ne_of_lt (Nat.lt_of_lt_of_le (E_x).lt (Nat.le_of_eq z1))) nin0)).keep q9_0 (ninS (Nat.ne_of_lt (Nat.lt_of_lt_of_le (E_x).lt (Nat.le_of_eq z1))) (ninS (Nat.ne_of_lt (Nat.lt_of_lt_of_le (Nat.lt_of_lt_of_le (E_x).lt E1.1) q5_1)) nin0))).ext E10).keep q16_0 (ninS (Nat.ne_of_lt (Nat.lt_of_lt_of_le (E_x).lt (Nat.le_of_eq z1))) (ninS (Nat.ne_of_lt (Nat.lt_of_lt_of_le (Nat.lt_of_lt_of_le (E_x).lt E1.1) q5_1)) nin0))).keep q20_0 (ninS (Nat.ne_of_lt (Nat.lt_of_lt_of_le (E_x).lt (Nat.le_of_eq z1))) (ninS (Nat.ne_of_lt (Nat.lt_of_lt_of_le (Nat.lt_of_lt_of_le (E_x).lt E1.1) q5_1)) nin0))).ext E21).keep q27_0 (ninS (Nat.ne_of_lt (Nat.lt_of_lt_of_le (E_x).lt (Nat.le_of_eq z1))) (ninS (Nat.ne_of_lt (Nat.lt_of_lt_of_le (Nat.lt_of_lt_of_le (E_x).lt E1.1) q5_1)) nin0))).keep q31_0 (ninS (Nat.ne_of_lt (Nat.lt_of_lt_of_le (E_x).lt (Nat.le_of_eq z1))) (ninS (Nat.ne_of_lt (Nat.lt_of_lt_of_le (Nat.lt_of_lt_of_le (E_x).lt E1.1) q5_1)) nin0))).ext q33_0)
  have Sf44 := (((((((((((CHr.ext E1 X.chv)).trans r5).trans r9).trans r10).trans r16).trans r20).trans r21).trans r27).trans r31).trans r33).safe (E_x).lt sf_x
  refine X33.callIK hl hKn hFK (argsL := [(.ref x_33)]) (a := x) i30_33 (c_ix l hw hEL hcs hcz hfm hfr hst hKn hus hss X33.old x x_33 E36 U37 g_x F38 F39 F40 F41 F42) (hw _ wd_163) (hw _ wd_164) (hw _ wd_166) (hw _ wd_167) rfl (by decide) (sf_cons ⟨Sf44, (E36).lt⟩ sf_nil) pd1 rfl rfl rfl (W := 0) rfl (by decide) (by decide) (k' := 9) rfl (n' := 2816) rfl (by decide) (by decide) fun vm43 T43 h43 v43 X43 r43 Q43 => ?_
  obtain ⟨rfl, q43_0, q43_1, q43_2, q43_3, q43_4⟩ := Q43
  show Go _ _ _ _ _ _ _ T43 36 #[.val (.ref x), .val (.ref s1), .val (.ref s2), .val (.ref s3)] []
  have S45 := (q33_2.keep q43_0 (ninS (Nat.ne_of_gt (Nat.lt_of_lt_of_le (Nat.lt_of_lt_of_le (Nat.lt_of_lt_of_le (Nat.lt_of_lt_of_le (Nat.lt_of_lt_of_le (Nat.lt_of_lt_of_le (Nat.lt_of_lt_of_le (Nat.lt_of_lt_of_le (Nat.lt_of_lt_of_le (Nat.lt_of_lt_of_le (E_x).lt E1.1) q5_0.1) q9_0.1) E10.1) q16_0.1) q20_0.1) E21.1) q27_0.1) q31_0.1) q33_1)) nin0) (ninS (Nat.ne_of_gt (Nat.lt_of_lt_of_le (Nat.lt_of_lt_of_le (Nat.lt_of_lt_of_le (Nat.lt_of_lt_of_le (Nat.lt_of_lt_of_le (Nat.lt_of_lt_of_le (Nat.lt_of_lt_of_le (Nat.lt_of_lt_of_le (Nat.lt_of_lt_of_le (Nat.lt_of_lt_of_le (E_x).lt E1.1) q5_0.1) q9_0.1) E10.1) q16_0.1) q20_0.1) E21.1) q27_0.1) q31_0.1) q33_3)) nin0))
  exact X43.ret i30_36 rfl (by decide) (by decide) (fun sf hsf => ⟨x_33, t_33, kt_33, rfl, ((((((((((((Keep.refl _ [x]).ext E1).trans q5_0 (allS (Or.inr (Nat.le_of_eq z1)) all0)).trans q9_0 (allS (Or.inr (Nat.le_of_eq z1)) (allS (Or.inr (Nat.le_trans E1.1 q5_1)) all0))).ext E10).trans q16_0 (allS (Or.inr (Nat.le_of_eq z1)) (allS (Or.inr (Nat.le_trans E1.1 q5_1)) all0))).trans q20_0 (allS (Or.inr (Nat.le_of_eq z1)) (allS (Or.inr (Nat.le_trans E1.1 q5_1)) all0))).ext E21).trans q27_0 (allS (Or.inr (Nat.le_of_eq z1)) (allS (Or.inr (Nat.le_trans E1.1 q5_1)) all0))).trans q31_0 (allS (Or.inr (Nat.le_of_eq z1)) (allS (Or.inr (Nat.le_trans E1.1 q5_1)) all0))).ext q33_0).trans q43_0 (allS (Or.inl (List.mem_of_getElem? (i := 0) rfl)) all0)), q43_1, q43_2, q43_3, q43_4, S45⟩)
set_option maxRecDepth 65536 in
set_option maxHeartbeats 40000000 in
theorem c_prob (l : Launch) {Z : State} {a0 : Array Value} {n0 : Nat} (hw : ∀ d ∈ tables_1, d.before a0 Z = true) (hEL : EW Z a0 own_EL) {zc : Int32} (hcs : Sta Z Z.heap "java/lang/String" "COMPACT_STRINGS" "Z" (.int zc)) (hcz : ¬ zc = 0) {fm : Value} (hfm : Sta Z Z.heap "jdk/internal/util/Preconditions" "SIOOBE_FORMATTER" "Ljava/util/function/BiFunction;" fm) (hfr : fm.isRef = true) (hst : l.stackTraces = true) (hKn : Z.vm.MethodsKnown) {us ss : Addr} (hus : Sta Z Z.heap "java/lang/Throwable" "UNASSIGNED_STACK" "[Ljava/lang/StackTraceElement;" (.ref us)) (hss : Sta Z Z.heap "java/lang/Throwable" "SUPPRESSED_SENTINEL" "Ljava/util/List;" (.ref ss)) {h : Heap} (hO : Old Z n0 h) (f : Addr) (s1 : Addr) (t1 : Addr) (k1 : ClassId) (A : List Int32) (s2 : Addr) (t2 : Addr) (k2 : ClassId) (B : List Int32) (s3 : Addr) (t3 : Addr) (k3 : ClassId) (D : List Int32) (F_1 : Fld Z h f "com/example/yusen/yusen/figures/TermFileField" "source" "Ljava/lang/String;" (.ref s1)) (F_2 : Fld Z h f "com/example/yusen/yusen/figures/TermFileField" "path" "Ljava/lang/String;" (.ref s2)) (S_1 : Str Z h s1 t1 k1 A) (S_2 : Str Z h s2 t2 k2 B) (S_3 : Str Z h s3 t3 k3 D) (hA : A.length ≤ 2) (hB : B.length ≤ 2) (hD : D.length ≤ 2) :
    ConK [] false l Z own_EL n0 [] (⟨"com/example/yusen/yusen/figures/TermFileField", "problem", "(Ljava/lang/String;)Lcom/example/yusen/yusen/figures/TermFileException;"⟩ : MethodName) prog_23_method_2_code 2 (some (.object "com/example/yusen/yusen/figures/TermFileException")) ({ frames := 7, cells := 10, slots := 2822, locals := 108 } : Room) #[(.ref f), (.ref s3)] h (fun v h' sf => ∃ (x : Addr) (m : Addr) (tm : Addr) (km : ClassId), v = some (.ref x) ∧ Ext h h' ∧ h.size ≤ x ∧ Exa Z h' x "com/example/yusen/yusen/figures/TermFileException" ∧ Unt h' x ∧ Fld Z h' x "java/lang/Throwable" "detailMessage" "Ljava/lang/String;" (.ref m) ∧ Fld Z h' x "java/lang/Throwable" "cause" "Ljava/lang/Throwable;" (.ref x) ∧ Str Z h' m tm km (((((([] : List Int32) ++ A) ++ [(58 : Int32), (32 : Int32)]) ++ B) ++ [(58 : Int32), (32 : Int32)]) ++ D)) := by
  refine Con.introK (Ls := #[.val (.ref f), .val (.ref s3)]) pn31 hEL hO (fun m => by first | rfl | (simp [entryFrame, mkF, argsToLocals, Value.category]; done)) fun C vm T hl X hs hT0 hFK => ?_
  have X : On C ({ frames := 7, cells := 10, slots := 2822, locals := 108 } : Room) "com/example/yusen/yusen/figures/TermFileField" prog_23_method_2_code 2 (some (.object "com/example/yusen/yusen/figures/TermFileException")) "problem" false Z a0 own_EL n0 vm T h 0 0 := X
  refine X.new i31_0 (hw _ wd_45) (hw _ wd_46) (hw _ wd_47) (k' := 1) rfl (n' := 6) rfl (by decide) (by decide) fun T1 h1 a1 X1 E1 z1 g1 A1 D1 U1 Sf1 => ?_
  refine X1.dup i31_3 rfl ?_
  refine X1.aload_n i31_4 rfl rfl ?_
  have F2 := (F_1.ext E1)
  refine X1.getfield i31_5 (hw _ wd_36) Via.refl F2 fun T3 X3 => ?_
  refine X3.aload_n i31_8 rfl rfl ?_
  have F4 := (F_2.ext E1)
  refine X3.getfield i31_9 (hw _ wd_38) Via.refl F4 fun T5 X5 => ?_
  refine X5.aload_n i31_12 rfl rfl ?_
  have F6 : Fld Z h1 a1 "java/lang/Throwable" "backtrace" "Ljava/lang/Object;" .null := D1 (Or.inl (hw _ wd_212)) (ty := (.object "java/lang/Object")) (by decide)
  have F7 : Fld Z h1 a1 "java/lang/Throwable" "detailMessage" "Ljava/lang/String;" .null := D1 (Or.inl (hw _ wd_211)) (ty := (.object "java/lang/String")) (by decide)
  have F8 : Fld Z h1 a1 "java/lang/Throwable" "cause" "Ljava/lang/Throwable;" .null := D1 (Or.inl (hw _ wd_181)) (ty := (.object "java/lang/Throwable")) (by decide)
  have F9 : Fld Z h1 a1 "java/lang/Throwable" "stackTrace" "[Ljava/lang/StackTraceElement;" .null := D1 (Or.inl (hw _ wd_184)) (ty := (.array (.object "java/lang/StackTraceElement"))) (by decide)
  have F10 : Fld Z h1 a1 "java/lang/Throwable" "suppressedExceptions" "Ljava/util/List;" .null := D1 (Or.inl (hw _ wd_187)) (ty := (.object "java/util/List")) (by decide)
  have S11 := (S_1.ext E1)
  have S12 := (S_2.ext E1)
  have S13 := (S_3.ext E1)
  refine X5.callIK hl hKn hFK (argsL := [(.ref s1), (.ref s2), (.ref s3)]) (a := a1) i31_13 (c_tx l hw hEL hcs hcz hfm hfr hst hKn hus hss X5.old a1 s1 t1 k1 A s2 t2 k2 B s3 t3 k3 D A1 U1 g1 F6 F7 F8 F9 F10 S11 S12 S13 hA hB hD) (hw _ wd_48) (hw _ wd_49) (hw _ wd_47) (hw _ wd_50) rfl (by decide) (sf_cons ⟨Sf1, (A1).lt⟩ sf_nil) pd20 rfl rfl rfl (W := 1) rfl (by decide) (by decide) (k' := 10) rfl (n' := 2822) rfl (by decide) (by decide) fun vm14 T14 h14 v14 X14 r14 Q14 => ?_
  obtain ⟨m_14, tm_14, km_14, rfl, q14_0, q14_1, q14_2, q14_3, q14_4, q14_5⟩ := Q14
  show Go _ _ _ _ _ _ _ T14 16 #[.val (.ref f), .val (.ref s3)] [(.ref a1)]
  exact X14.areturn i31_16 rfl rfl rfl (by decide) (by decide) (fun sf hsf => ⟨a1, m_14, tm_14, km_14, rfl, (ext_keep E1 q14_0 (allS (Nat.le_of_eq z1) all0)), (Nat.le_of_eq z1), q14_1, q14_2, q14_3, q14_4, q14_5⟩)
set_option maxRecDepth 65536 in
set_option maxHeartbeats 40000000 in
theorem c_gm (l : Launch) {Z : State} {a0 : Array Value} {n0 : Nat} (hw : ∀ d ∈ tables_1, d.before a0 Z = true) (hEL : EW Z a0 own_EL) {zc : Int32} (hcs : Sta Z Z.heap "java/lang/String" "COMPACT_STRINGS" "Z" (.int zc)) (hcz : ¬ zc = 0) {fm : Value} (hfm : Sta Z Z.heap "jdk/internal/util/Preconditions" "SIOOBE_FORMATTER" "Ljava/util/function/BiFunction;" fm) (hfr : fm.isRef = true) (hst : l.stackTraces = true) (hKn : Z.vm.MethodsKnown) {us ss : Addr} (hus : Sta Z Z.heap "java/lang/Throwable" "UNASSIGNED_STACK" "[Ljava/lang/StackTraceElement;" (.ref us)) (hss : Sta Z Z.heap "java/lang/Throwable" "SUPPRESSED_SENTINEL" "Ljava/util/List;" (.ref ss)) {h : Heap} (hO : Old Z n0 h) (x : Addr) (m : Addr) (F_m : Fld Z h x "java/lang/Throwable" "detailMessage" "Ljava/lang/String;" (.ref m)) :
    Con [] false l Z own_EL n0 [] (⟨"java/lang/Throwable", "getMessage", "()Ljava/lang/String;"⟩ : MethodName) jdk_78_method_6_code 1 (some (.object "java/lang/String")) ({ frames := 0, cells := 0, slots := 0, locals := 0 } : Room) #[(.ref x)] h (fun v h' sf => v = some (.ref m) ∧ h = h') := by
  refine Con.intro (Ls := #[.val (.ref x)]) pn32 hEL hO (fun m => by first | rfl | (simp [entryFrame, mkF, argsToLocals, Value.category]; done)) fun C vm T hl X hs => ?_
  have X : On C ({ frames := 0, cells := 0, slots := 0, locals := 0 } : Room) "java/lang/Throwable" jdk_78_method_6_code 1 (some (.object "java/lang/String")) "getMessage" false Z a0 own_EL n0 vm T h 0 0 := X
  refine X.aload_n i32_0 rfl rfl ?_
  refine X.getfield i32_1 (hw _ wd_215) Via.refl F_m fun T1 X1 => ?_
  exact X1.areturn i32_4 rfl rfl rfl (by decide) (by decide) (fun sf hsf => ⟨rfl, rfl⟩)
theorem ef_law (m : MethodId) (p0 : Int32) (p1 : Int32) (p2 : Int32) : entryFrame m #[(.int p0), (.int p1), (.int p2)] maxLocals = mkF m 0 #[.val (.int p0), .val (.int p1), .val (.int p2), .unset, .unset, .unset, .unset, .unset] [] := by first | (simp [entryFrame, mkF, argsToLocals, Value.category, maxLocals]; done) | rfl
set_option maxRecDepth 65536 in
set_option maxHeartbeats 40000000 in
theorem own_law (l : Launch) {Z : State} {a0 : Array Value} (hw : ∀ d ∈ tables_1, d.before a0 Z = true) (hEL : EW Z a0 own_EL) {zc : Int32} (hcs : Sta Z Z.heap "java/lang/String" "COMPACT_STRINGS" "Z" (.int zc)) (hcz : ¬ zc = 0) {fm : Value} (hfm : Sta Z Z.heap "jdk/internal/util/Preconditions" "SIOOBE_FORMATTER" "Ljava/util/function/BiFunction;" fm) (hfr : fm.isRef = true) (hst : l.stackTraces = true) (hKn : Z.vm.MethodsKnown) {us ss : Addr} (hus : Sta Z Z.heap "java/lang/Throwable" "UNASSIGNED_STACK" "[Ljava/lang/StackTraceElement;" (.ref us)) (hss : Sta Z Z.heap "java/lang/Throwable" "SUPPRESSED_SENTINEL" "Ljava/util/List;" (.ref ss)) (p0 : Int32) (p1 : Int32) (p2 : Int32)  :
    ConK tables_1 false l Z own_EL Z.heap.size [] x code maxLocals ret room_1 #[(.int p0), (.int p1), (.int p2)] Z.heap (fun v h' sf => v = some (.int (1 : Int32))) := by
  have hml : maxLocals = 8 := rfl
  refine Con.introK pn33 hEL (Old.start Z) (fun m => ef_law m p0 p1 p2) fun C vm T hl X hs hT0 hFK => ?_
  have X : On C room_1 "com/example/yusen/yusen/figures/TermFileFieldProblemPinLaw" code 8 (some .boolean) "law" false Z a0 own_EL Z.heap.size vm T Z.heap 0 0 := X
  obtain ⟨rr0, hh0⟩ : ∃ z, (((p0.toUInt32 >>> ((16 : Int32) &&& 31).toUInt32).toInt32) % (3 : Int32)) = z := ⟨_, rfl⟩
  have hq0 := own_rem3u p0
  rw [hh0] at hq0
  have hm0 := own_mk2l rr0 (p0 &&& (255 : Int32)) (((p0.toUInt32 >>> ((8 : Int32) &&& 31).toUInt32).toInt32) &&& (255 : Int32))
  obtain ⟨rr1, hh1⟩ : ∃ z, (((p1.toUInt32 >>> ((16 : Int32) &&& 31).toUInt32).toInt32) % (3 : Int32)) = z := ⟨_, rfl⟩
  have hq1 := own_rem3u p1
  rw [hh1] at hq1
  have hm1 := own_mk2l rr1 (p1 &&& (255 : Int32)) (((p1.toUInt32 >>> ((8 : Int32) &&& 31).toUInt32).toInt32) &&& (255 : Int32))
  obtain ⟨rr2, hh2⟩ : ∃ z, (((p2.toUInt32 >>> ((16 : Int32) &&& 31).toUInt32).toInt32) % (3 : Int32)) = z := ⟨_, rfl⟩
  have hq2 := own_rem3u p2
  rw [hh2] at hq2
  have hm2 := own_mk2l rr2 (p2 &&& (255 : Int32)) (((p2.toUInt32 >>> ((8 : Int32) &&& 31).toUInt32).toInt32) &&& (255 : Int32))
  refine X.new i33_0 (hw _ wd_0) (hw _ wd_1) (hw _ wd_2) (k' := 1) rfl (n' := 2) rfl (by decide) (by decide) fun T1 h1 a1 X1 E1 z1 g1 A1 D1 U1 Sf1 => ?_
  refine X1.dup i33_3 rfl ?_
  refine X1.iload_n i33_4 rfl ?_
  refine X1.callS hl (argsL := [(.int p0)]) i33_5 (c_str l hw hEL hcs hcz hfm hfr hst hKn hus hss X1.old p0 rr0 hh0 hq0) (hw _ wd_3) (hw _ wd_4) (hw _ wd_5) (hw _ wd_6) (by decide) sf_nil pd21 rfl rfl rfl (W := 2) rfl (by decide) (by decide) (k' := 7) rfl (n' := 14) rfl (by decide) (by decide) fun vm2 T2 h2 v2 X2 r2 Q2 => ?_
  obtain ⟨s_2, t_2, kb_2, rfl, q2_0, q2_1, q2_2⟩ := Q2
  have g3 := Nat.le_trans X1.n0le q2_1
  show Go _ _ _ _ _ _ _ T2 8 #[.val (.int p0), .val (.int p1), .val (.int p2), .unset, .unset, .unset, .unset, .unset] [(.ref s_2), (.ref a1), (.ref a1)]
  refine X2.iload_n i33_8 rfl ?_
  refine X2.callS hl (argsL := [(.int p1)]) i33_9 (c_str l hw hEL hcs hcz hfm hfr hst hKn hus hss X2.old p1 rr1 hh1 hq1) (hw _ wd_3) (hw _ wd_4) (hw _ wd_5) (hw _ wd_6) (by decide) sf_nil pd21 rfl rfl rfl (W := 3) rfl (by decide) (by decide) (k' := 13) rfl (n' := 26) rfl (by decide) (by decide) fun vm4 T4 h4 v4 X4 r4 Q4 => ?_
  obtain ⟨s_4, t_4, kb_4, rfl, q4_0, q4_1, q4_2⟩ := Q4
  have g5 := Nat.le_trans X2.n0le q4_1
  show Go _ _ _ _ _ _ _ T4 12 #[.val (.int p0), .val (.int p1), .val (.int p2), .unset, .unset, .unset, .unset, .unset] [(.ref s_4), (.ref s_2), (.ref a1), (.ref a1)]
  have E6 := ((A1.ext q2_0).ext q4_0)
  have F7 : Fld Z h1 a1 "com/example/yusen/yusen/figures/TermFileField" "source" "Ljava/lang/String;" .null := D1 (Or.inr (hw _ wd_37)) (ty := (.object "java/lang/String")) (by decide)
  have F8 := ((F7.ext q2_0).ext q4_0)
  have F9 : Fld Z h1 a1 "com/example/yusen/yusen/figures/TermFileField" "path" "Ljava/lang/String;" .null := D1 (Or.inr (hw _ wd_39)) (ty := (.object "java/lang/String")) (by decide)
  have F10 := ((F9.ext q2_0).ext q4_0)
  have Sf12 := ((r2).trans r4).safe (A1).lt Sf1
  refine X4.callI hl (argsL := [(.ref s_2), (.ref s_4)]) (a := a1) i33_12 (c_tf l hw hEL hcs hcz hfm hfr hst hKn hus hss X4.old a1 s_2 s_4 E6 g1 F8 F10) (hw _ wd_32) (hw _ wd_33) (hw _ wd_2) (hw _ wd_34) rfl (by decide) (sf_cons ⟨Sf12, (E6).lt⟩ sf_nil) pd22 rfl rfl rfl (W := 1) rfl (by decide) (by decide) (k' := 13) rfl (n' := 26) rfl (by decide) (by decide) fun vm11 T11 h11 v11 X11 r11 Q11 => ?_
  obtain ⟨rfl, q11_0, q11_1, q11_2⟩ := Q11
  show Go _ _ _ _ _ _ _ T11 15 #[.val (.int p0), .val (.int p1), .val (.int p2), .unset, .unset, .unset, .unset, .unset] [(.ref a1)]
  refine X11.astore_n i33_15 rfl (Ls' := #[.val (.int p0), .val (.int p1), .val (.int p2), .val (.ref a1), .unset, .unset, .unset, .unset]) rfl ?_
  refine X11.aload_n i33_16 rfl rfl ?_
  refine X11.iload_n i33_17 rfl ?_
  refine X11.callS hl (argsL := [(.int p2)]) i33_18 (c_str l hw hEL hcs hcz hfm hfr hst hKn hus hss X11.old p2 rr2 hh2 hq2) (hw _ wd_3) (hw _ wd_4) (hw _ wd_5) (hw _ wd_6) (by decide) sf_nil pd21 rfl rfl rfl (W := 1) rfl (by decide) (by decide) (k' := 19) rfl (n' := 38) rfl (by decide) (by decide) fun vm13 T13 h13 v13 X13 r13 Q13 => ?_
  obtain ⟨s_13, t_13, kb_13, rfl, q13_0, q13_1, q13_2⟩ := Q13
  have g14 := Nat.le_trans X11.n0le q13_1
  show Go _ _ _ _ _ _ _ T13 21 #[.val (.int p0), .val (.int p1), .val (.int p2), .val (.ref a1), .unset, .unset, .unset, .unset] [(.ref s_13), (.ref a1)]
  have F15 := (q11_1.ext q13_0)
  have F16 := (q11_2.ext q13_0)
  have S17 := (((q2_2.ext q4_0).keep q11_0 (ninS (Nat.ne_of_gt (Nat.lt_of_lt_of_le (A1).lt q2_1)) nin0) (ninS (Ne.symm ((A1.ext q2_0).neArv (q2_2).2.2.2.1 (hw _ wd_1))) nin0)).ext q13_0)
  have S18 := ((q4_2.keep q11_0 (ninS (Nat.ne_of_gt (Nat.lt_of_lt_of_le (Nat.lt_of_lt_of_le (A1).lt q2_0.1) q4_1)) nin0) (ninS (Ne.symm (((A1.ext q2_0).ext q4_0).neArv (q4_2).2.2.2.1 (hw _ wd_1))) nin0)).ext q13_0)
  have E20 := ((E6.keep q11_0).ext q13_0)
  refine X13.callVK hl hKn hFK (argsL := [(.ref s_13)]) (a := a1) i33_21 (c_prob l hw hEL hcs hcz hfm hfr hst hKn hus hss X13.old a1 s_2 t_2 kb_2 (own_mk rr0 (p0 &&& (255 : Int32)) (((p0.toUInt32 >>> ((8 : Int32) &&& 31).toUInt32).toInt32) &&& (255 : Int32))) s_4 t_4 kb_4 (own_mk rr1 (p1 &&& (255 : Int32)) (((p1.toUInt32 >>> ((8 : Int32) &&& 31).toUInt32).toInt32) &&& (255 : Int32))) s_13 t_13 kb_13 (own_mk rr2 (p2 &&& (255 : Int32)) (((p2.toUInt32 >>> ((8 : Int32) &&& 31).toUInt32).toInt32) &&& (255 : Int32))) F15 F16 S17 S18 q13_2 hm0 hm1 hm2) E20 (hw _ wd_40) (hw _ wd_41) (hw _ wd_43) (nfSel X13.zw (hw _ wd_43)) (hw _ wd_42) (hw _ wd_2) (hw _ wd_44) (by decide) sf_nil pd23 rfl rfl rfl (W := 0) rfl (by decide) (by decide) (k' := 29) rfl (n' := 2860) rfl (by decide) (by decide) fun vm19 T19 h19 v19 X19 r19 Q19 => ?_
  obtain ⟨x_19, m_19, tm_19, km_19, rfl, q19_0, q19_1, q19_2, q19_3, q19_4, q19_5, q19_6⟩ := Q19
  have g21 := Nat.le_trans X13.n0le q19_1
  show Go _ _ _ _ _ _ _ T19 24 #[.val (.int p0), .val (.int p1), .val (.int p2), .val (.ref a1), .unset, .unset, .unset, .unset] [(.ref x_19)]
  refine X19.astore i33_24 rfl (Ls' := #[.val (.int p0), .val (.int p1), .val (.int p2), .val (.ref a1), .val (.ref x_19), .unset, .unset, .unset]) rfl ?_
  refine X19.aload i33_26 rfl rfl ?_
  refine X19.nonnullY i33_28 j28_5 ?_
  refine X19.aload i33_33 rfl rfl ?_
  refine X19.getCause (y := (⟨"com/example/yusen/yusen/figures/TermFileException", "getCause", "()Ljava/lang/Throwable;"⟩ : MethodName)) i33_35 q19_2 q19_3 q19_5 rfl rfl (hw _ wd_216) (hw _ wd_218) (hw _ wd_217) rfl (hw _ wd_220) (hw _ wd_219) (hw _ wd_221) (hw _ wd_177) (hw _ wd_180) rfl (W := 0) rfl (by decide) (by decide) (by decide) (by decide) fun T22 X22 => ?_
  refine X22.nullY i33_38 j38_5 ?_
  refine X22.aload i33_43 rfl rfl ?_
  refine X22.callVU hl (argsL := []) (a := x_19) i33_45 (c_gm l hw hEL hcs hcz hfm hfr hst hKn hus hss X22.old x_19 m_19 q19_4) q19_2 (hw _ wd_222) (ow := "java/lang/Throwable") (hw _ wd_224) (hw _ wd_223) rfl (hw _ wd_226) (hw _ wd_225) (hw _ wd_177) (hw _ wd_227) (by decide) sf_nil pd19 rfl rfl rfl (W := 0) rfl (by decide) (by decide) (k' := 29) rfl (n' := 2860) rfl (by decide) (by decide) fun vm23 T23 h23 v23 X23 r23 Q23 => ?_
  obtain ⟨rfl, rfl⟩ := Q23
  show Go _ _ _ _ _ _ _ T23 48 #[.val (.int p0), .val (.int p1), .val (.int p2), .val (.ref a1), .val (.ref x_19), .unset, .unset, .unset] [(.ref m_19)]
  refine X23.astore i33_48 rfl (Ls' := #[.val (.int p0), .val (.int p1), .val (.int p2), .val (.ref a1), .val (.ref x_19), .val (.ref m_19), .unset, .unset]) rfl ?_
  refine X23.aload i33_50 rfl rfl ?_
  refine X23.nonnullY i33_52 j52_5 ?_
  refine X23.bipush i33_57 (z := (10 : Int32)) rfl ?_
  refine X23.newarray i33_59 (ty := .char) rfl (hw _ wd_13) (by decide) (cap := 10) (by decide) (by decide) (k' := 30) rfl (n' := 2870) rfl (by decide) (by decide) fun T24 h24 a24 c24 X24 E24 z24 g24 V24 Sf24 => ?_
  have V24 : Arv Z h24 a24 c24 .char (10 : Int32) [(.int (0 : Int32)), (.int (0 : Int32)), (.int (0 : Int32)), (.int (0 : Int32)), (.int (0 : Int32)), (.int (0 : Int32)), (.int (0 : Int32)), (.int (0 : Int32)), (.int (0 : Int32)), (.int (0 : Int32))] (.int (0 : Int32)) := V24.pad (pad_rep [] (.int (0 : Int32)) 10)
  have V25 : Arv Z h24 a24 c24 .char (10 : Int32) (([] : List Int32).map Value.int) (.int (0 : Int32)) := V24.pad (fun i => by rcases i with _ | _ | _ | _ | _ | _ | _ | _ | _ | _ | i <;> rfl)
  refine X24.astore i33_61 rfl (Ls' := #[.val (.int p0), .val (.int p1), .val (.int p2), .val (.ref a1), .val (.ref x_19), .val (.ref m_19), .val (.ref a24), .unset]) rfl ?_
  refine X24.iconst i33_63 (z := (0 : Int32)) rfl ?_
  refine X24.istore i33_64 (Ls' := #[.val (.int p0), .val (.int p1), .val (.int p2), .val (.ref a1), .val (.ref x_19), .val (.ref m_19), .val (.ref a24), .val (.int (0 : Int32))]) rfl ?_
  refine X24.aload i33_66 rfl rfl ?_
  refine X24.iload i33_68 rfl ?_
  refine X24.iload_n i33_70 rfl ?_
  refine X24.callS hl (argsL := [(.ref a24), (.int (0 : Int32)), (.int p0)]) i33_71 (c_put_ l hw hEL hcs hcz hfm hfr hst hKn hus hss X24.old a24 c24 ([] : List Int32) p0 rr0 (([] : List Int32) ++ (own_mk rr0 (p0 &&& (255 : Int32)) (((p0.toUInt32 >>> ((8 : Int32) &&& 31).toUInt32).toInt32) &&& (255 : Int32)))) V25 g24 hh0 hq0 (by have := hm0; have := hm1; simp only [List.length_append, List.length_cons, List.length_nil]; omega) rfl) (hw _ wd_228) (hw _ wd_229) (hw _ wd_5) (hw _ wd_230) (by decide) sf_nil pd24 rfl rfl rfl (W := 0) rfl (by decide) (by decide) (k' := 30) rfl (n' := 2870) rfl (by decide) (by decide) fun vm26 T26 h26 v26 X26 r26 Q26 => ?_
  obtain ⟨rfl, q26_0, q26_1⟩ := Q26
  show Go _ _ _ _ _ _ _ T26 74 #[.val (.int p0), .val (.int p1), .val (.int p2), .val (.ref a1), .val (.ref x_19), .val (.ref m_19), .val (.ref a24), .val (.int (0 : Int32))] [(.int (Int32.ofNat (([] : List Int32) ++ (own_mk rr0 (p0 &&& (255 : Int32)) (((p0.toUInt32 >>> ((8 : Int32) &&& 31).toUInt32).toInt32) &&& (255 : Int32)))).length))]
  refine X26.istore i33_74 (Ls' := #[.val (.int p0), .val (.int p1), .val (.int p2), .val (.ref a1), .val (.ref x_19), .val (.ref m_19), .val (.ref a24), .val (.int (Int32.ofNat (([] : List Int32) ++ (own_mk rr0 (p0 &&& (255 : Int32)) (((p0.toUInt32 >>> ((8 : Int32) &&& 31).toUInt32).toInt32) &&& (255 : Int32)))).length))]) rfl ?_
  refine X26.aload i33_76 rfl rfl ?_
  refine X26.iload i33_78 rfl ?_
  refine X26.bipush i33_80 (z := (58 : Int32)) rfl ?_
  have B27 := q26_1.pad (pad_rep ((([] : List Int32) ++ (own_mk rr0 (p0 &&& (255 : Int32)) (((p0.toUInt32 >>> ((8 : Int32) &&& 31).toUInt32).toInt32) &&& (255 : Int32)))).map Value.int) (.int (0 : Int32)) 1)
  refine X26.castore i33_82 B27 (own_in10 (by have := hm0; have := hm1; simp only [List.length_append, List.length_cons, List.length_nil]; omega)) (i := (([] : List Int32) ++ (own_mk rr0 (p0 &&& (255 : Int32)) (((p0.toUInt32 >>> ((8 : Int32) &&& 31).toUInt32).toInt32) &&& (255 : Int32)))).length) (own_tn9 (by have := hm0; have := hm1; simp only [List.length_append, List.length_cons, List.length_nil]; omega)) (by simp) (y := (58 : Int32)) rfl g24 fun T27 h27 X27 W27 V27 => ?_
  have V27 : Arv Z h27 a24 c24 .char (10 : Int32) (((([] : List Int32) ++ (own_mk rr0 (p0 &&& (255 : Int32)) (((p0.toUInt32 >>> ((8 : Int32) &&& 31).toUInt32).toInt32) &&& (255 : Int32)))) ++ [(58 : Int32)]).map Value.int) (.int (0 : Int32)) := by rw [← own_snoc (es := (([] : List Int32) ++ (own_mk rr0 (p0 &&& (255 : Int32)) (((p0.toUInt32 >>> ((8 : Int32) &&& 31).toUInt32).toInt32) &&& (255 : Int32))))) (.int (0 : Int32)) rfl]; exact V27
  refine X27.aload i33_83 rfl rfl ?_
  refine X27.iload i33_85 rfl ?_
  refine X27.iconst i33_87 (z := (1 : Int32)) rfl ?_
  refine X27.iadd i33_88 (z := (Int32.ofNat ((([] : List Int32) ++ (own_mk rr0 (p0 &&& (255 : Int32)) (((p0.toUInt32 >>> ((8 : Int32) &&& 31).toUInt32).toInt32) &&& (255 : Int32)))) ++ [(58 : Int32)]).length)) (own_snl rfl) ?_
  refine X27.bipush i33_89 (z := (32 : Int32)) rfl ?_
  have B28 := V27.pad (pad_rep (((([] : List Int32) ++ (own_mk rr0 (p0 &&& (255 : Int32)) (((p0.toUInt32 >>> ((8 : Int32) &&& 31).toUInt32).toInt32) &&& (255 : Int32)))) ++ [(58 : Int32)]).map Value.int) (.int (0 : Int32)) 1)
  refine X27.castore i33_91 B28 (own_in10 (by have := hm0; have := hm1; simp only [List.length_append, List.length_cons, List.length_nil]; omega)) (i := ((([] : List Int32) ++ (own_mk rr0 (p0 &&& (255 : Int32)) (((p0.toUInt32 >>> ((8 : Int32) &&& 31).toUInt32).toInt32) &&& (255 : Int32)))) ++ [(58 : Int32)]).length) (own_tn9 (by have := hm0; have := hm1; simp only [List.length_append, List.length_cons, List.length_nil]; omega)) (by simp) (y := (32 : Int32)) rfl g24 fun T28 h28 X28 W28 V28 => ?_
  have V28 : Arv Z h28 a24 c24 .char (10 : Int32) (((([] : List Int32) ++ (own_mk rr0 (p0 &&& (255 : Int32)) (((p0.toUInt32 >>> ((8 : Int32) &&& 31).toUInt32).toInt32) &&& (255 : Int32)))) ++ [(58 : Int32), (32 : Int32)]).map Value.int) (.int (0 : Int32)) := by rw [← own_snoc (es := ((([] : List Int32) ++ (own_mk rr0 (p0 &&& (255 : Int32)) (((p0.toUInt32 >>> ((8 : Int32) &&& 31).toUInt32).toInt32) &&& (255 : Int32)))) ++ [(58 : Int32)])) (.int (0 : Int32)) (by rw [List.append_assoc]; rfl)]; exact V28
  refine X28.iload i33_92 rfl ?_
  refine X28.iconst i33_94 (z := (2 : Int32)) rfl ?_
  refine X28.iadd i33_95 (z := (Int32.ofNat ((([] : List Int32) ++ (own_mk rr0 (p0 &&& (255 : Int32)) (((p0.toUInt32 >>> ((8 : Int32) &&& 31).toUInt32).toInt32) &&& (255 : Int32)))) ++ [(58 : Int32), (32 : Int32)]).length)) (own_snl2 rfl) ?_
  refine X28.istore i33_96 (Ls' := #[.val (.int p0), .val (.int p1), .val (.int p2), .val (.ref a1), .val (.ref x_19), .val (.ref m_19), .val (.ref a24), .val (.int (Int32.ofNat ((([] : List Int32) ++ (own_mk rr0 (p0 &&& (255 : Int32)) (((p0.toUInt32 >>> ((8 : Int32) &&& 31).toUInt32).toInt32) &&& (255 : Int32)))) ++ [(58 : Int32), (32 : Int32)]).length))]) rfl ?_
  refine X28.aload i33_98 rfl rfl ?_
  refine X28.iload i33_100 rfl ?_
  refine X28.iload_n i33_102 rfl ?_
  refine X28.callS hl (argsL := [(.ref a24), (.int (Int32.ofNat ((([] : List Int32) ++ (own_mk rr0 (p0 &&& (255 : Int32)) (((p0.toUInt32 >>> ((8 : Int32) &&& 31).toUInt32).toInt32) &&& (255 : Int32)))) ++ [(58 : Int32), (32 : Int32)]).length)), (.int p1)]) i33_103 (c_put_ l hw hEL hcs hcz hfm hfr hst hKn hus hss X28.old a24 c24 ((([] : List Int32) ++ (own_mk rr0 (p0 &&& (255 : Int32)) (((p0.toUInt32 >>> ((8 : Int32) &&& 31).toUInt32).toInt32) &&& (255 : Int32)))) ++ [(58 : Int32), (32 : Int32)]) p1 rr1 (((([] : List Int32) ++ (own_mk rr0 (p0 &&& (255 : Int32)) (((p0.toUInt32 >>> ((8 : Int32) &&& 31).toUInt32).toInt32) &&& (255 : Int32)))) ++ [(58 : Int32), (32 : Int32)]) ++ (own_mk rr1 (p1 &&& (255 : Int32)) (((p1.toUInt32 >>> ((8 : Int32) &&& 31).toUInt32).toInt32) &&& (255 : Int32)))) V28 g24 hh1 hq1 (by have := hm0; have := hm1; simp only [List.length_append, List.length_cons, List.length_nil]; omega) rfl) (hw _ wd_228) (hw _ wd_229) (hw _ wd_5) (hw _ wd_230) (by decide) sf_nil pd24 rfl rfl rfl (W := 0) rfl (by decide) (by decide) (k' := 30) rfl (n' := 2870) rfl (by decide) (by decide) fun vm29 T29 h29 v29 X29 r29 Q29 => ?_
  obtain ⟨rfl, q29_0, q29_1⟩ := Q29
  show Go _ _ _ _ _ _ _ T29 106 #[.val (.int p0), .val (.int p1), .val (.int p2), .val (.ref a1), .val (.ref x_19), .val (.ref m_19), .val (.ref a24), .val (.int (Int32.ofNat ((([] : List Int32) ++ (own_mk rr0 (p0 &&& (255 : Int32)) (((p0.toUInt32 >>> ((8 : Int32) &&& 31).toUInt32).toInt32) &&& (255 : Int32)))) ++ [(58 : Int32), (32 : Int32)]).length))] [(.int (Int32.ofNat (((([] : List Int32) ++ (own_mk rr0 (p0 &&& (255 : Int32)) (((p0.toUInt32 >>> ((8 : Int32) &&& 31).toUInt32).toInt32) &&& (255 : Int32)))) ++ [(58 : Int32), (32 : Int32)]) ++ (own_mk rr1 (p1 &&& (255 : Int32)) (((p1.toUInt32 >>> ((8 : Int32) &&& 31).toUInt32).toInt32) &&& (255 : Int32)))).length))]
  refine X29.istore i33_106 (Ls' := #[.val (.int p0), .val (.int p1), .val (.int p2), .val (.ref a1), .val (.ref x_19), .val (.ref m_19), .val (.ref a24), .val (.int (Int32.ofNat (((([] : List Int32) ++ (own_mk rr0 (p0 &&& (255 : Int32)) (((p0.toUInt32 >>> ((8 : Int32) &&& 31).toUInt32).toInt32) &&& (255 : Int32)))) ++ [(58 : Int32), (32 : Int32)]) ++ (own_mk rr1 (p1 &&& (255 : Int32)) (((p1.toUInt32 >>> ((8 : Int32) &&& 31).toUInt32).toInt32) &&& (255 : Int32)))).length))]) rfl ?_
  refine X29.aload i33_108 rfl rfl ?_
  refine X29.iload i33_110 rfl ?_
  refine X29.bipush i33_112 (z := (58 : Int32)) rfl ?_
  have B30 := q29_1.pad (pad_rep ((((([] : List Int32) ++ (own_mk rr0 (p0 &&& (255 : Int32)) (((p0.toUInt32 >>> ((8 : Int32) &&& 31).toUInt32).toInt32) &&& (255 : Int32)))) ++ [(58 : Int32), (32 : Int32)]) ++ (own_mk rr1 (p1 &&& (255 : Int32)) (((p1.toUInt32 >>> ((8 : Int32) &&& 31).toUInt32).toInt32) &&& (255 : Int32)))).map Value.int) (.int (0 : Int32)) 1)
  refine X29.castore i33_114 B30 (own_in10 (by have := hm0; have := hm1; simp only [List.length_append, List.length_cons, List.length_nil]; omega)) (i := (((([] : List Int32) ++ (own_mk rr0 (p0 &&& (255 : Int32)) (((p0.toUInt32 >>> ((8 : Int32) &&& 31).toUInt32).toInt32) &&& (255 : Int32)))) ++ [(58 : Int32), (32 : Int32)]) ++ (own_mk rr1 (p1 &&& (255 : Int32)) (((p1.toUInt32 >>> ((8 : Int32) &&& 31).toUInt32).toInt32) &&& (255 : Int32)))).length) (own_tn9 (by have := hm0; have := hm1; simp only [List.length_append, List.length_cons, List.length_nil]; omega)) (by simp) (y := (58 : Int32)) rfl g24 fun T30 h30 X30 W30 V30 => ?_
  have V30 : Arv Z h30 a24 c24 .char (10 : Int32) (((((([] : List Int32) ++ (own_mk rr0 (p0 &&& (255 : Int32)) (((p0.toUInt32 >>> ((8 : Int32) &&& 31).toUInt32).toInt32) &&& (255 : Int32)))) ++ [(58 : Int32), (32 : Int32)]) ++ (own_mk rr1 (p1 &&& (255 : Int32)) (((p1.toUInt32 >>> ((8 : Int32) &&& 31).toUInt32).toInt32) &&& (255 : Int32)))) ++ [(58 : Int32)]).map Value.int) (.int (0 : Int32)) := by rw [← own_snoc (es := (((([] : List Int32) ++ (own_mk rr0 (p0 &&& (255 : Int32)) (((p0.toUInt32 >>> ((8 : Int32) &&& 31).toUInt32).toInt32) &&& (255 : Int32)))) ++ [(58 : Int32), (32 : Int32)]) ++ (own_mk rr1 (p1 &&& (255 : Int32)) (((p1.toUInt32 >>> ((8 : Int32) &&& 31).toUInt32).toInt32) &&& (255 : Int32))))) (.int (0 : Int32)) rfl]; exact V30
  refine X30.aload i33_115 rfl rfl ?_
  refine X30.iload i33_117 rfl ?_
  refine X30.iconst i33_119 (z := (1 : Int32)) rfl ?_
  refine X30.iadd i33_120 (z := (Int32.ofNat ((((([] : List Int32) ++ (own_mk rr0 (p0 &&& (255 : Int32)) (((p0.toUInt32 >>> ((8 : Int32) &&& 31).toUInt32).toInt32) &&& (255 : Int32)))) ++ [(58 : Int32), (32 : Int32)]) ++ (own_mk rr1 (p1 &&& (255 : Int32)) (((p1.toUInt32 >>> ((8 : Int32) &&& 31).toUInt32).toInt32) &&& (255 : Int32)))) ++ [(58 : Int32)]).length)) (own_snl rfl) ?_
  refine X30.bipush i33_121 (z := (32 : Int32)) rfl ?_
  have B31 := V30.pad (pad_rep (((((([] : List Int32) ++ (own_mk rr0 (p0 &&& (255 : Int32)) (((p0.toUInt32 >>> ((8 : Int32) &&& 31).toUInt32).toInt32) &&& (255 : Int32)))) ++ [(58 : Int32), (32 : Int32)]) ++ (own_mk rr1 (p1 &&& (255 : Int32)) (((p1.toUInt32 >>> ((8 : Int32) &&& 31).toUInt32).toInt32) &&& (255 : Int32)))) ++ [(58 : Int32)]).map Value.int) (.int (0 : Int32)) 1)
  refine X30.castore i33_123 B31 (own_in10 (by have := hm0; have := hm1; simp only [List.length_append, List.length_cons, List.length_nil]; omega)) (i := ((((([] : List Int32) ++ (own_mk rr0 (p0 &&& (255 : Int32)) (((p0.toUInt32 >>> ((8 : Int32) &&& 31).toUInt32).toInt32) &&& (255 : Int32)))) ++ [(58 : Int32), (32 : Int32)]) ++ (own_mk rr1 (p1 &&& (255 : Int32)) (((p1.toUInt32 >>> ((8 : Int32) &&& 31).toUInt32).toInt32) &&& (255 : Int32)))) ++ [(58 : Int32)]).length) (own_tn9 (by have := hm0; have := hm1; simp only [List.length_append, List.length_cons, List.length_nil]; omega)) (by simp) (y := (32 : Int32)) rfl g24 fun T31 h31 X31 W31 V31 => ?_
  have V31 : Arv Z h31 a24 c24 .char (10 : Int32) (((((([] : List Int32) ++ (own_mk rr0 (p0 &&& (255 : Int32)) (((p0.toUInt32 >>> ((8 : Int32) &&& 31).toUInt32).toInt32) &&& (255 : Int32)))) ++ [(58 : Int32), (32 : Int32)]) ++ (own_mk rr1 (p1 &&& (255 : Int32)) (((p1.toUInt32 >>> ((8 : Int32) &&& 31).toUInt32).toInt32) &&& (255 : Int32)))) ++ [(58 : Int32), (32 : Int32)]).map Value.int) (.int (0 : Int32)) := by rw [← own_snoc (es := ((((([] : List Int32) ++ (own_mk rr0 (p0 &&& (255 : Int32)) (((p0.toUInt32 >>> ((8 : Int32) &&& 31).toUInt32).toInt32) &&& (255 : Int32)))) ++ [(58 : Int32), (32 : Int32)]) ++ (own_mk rr1 (p1 &&& (255 : Int32)) (((p1.toUInt32 >>> ((8 : Int32) &&& 31).toUInt32).toInt32) &&& (255 : Int32)))) ++ [(58 : Int32)])) (.int (0 : Int32)) (by rw [List.append_assoc]; rfl)]; exact V31
  refine X31.iload i33_124 rfl ?_
  refine X31.iconst i33_126 (z := (2 : Int32)) rfl ?_
  refine X31.iadd i33_127 (z := (Int32.ofNat ((((([] : List Int32) ++ (own_mk rr0 (p0 &&& (255 : Int32)) (((p0.toUInt32 >>> ((8 : Int32) &&& 31).toUInt32).toInt32) &&& (255 : Int32)))) ++ [(58 : Int32), (32 : Int32)]) ++ (own_mk rr1 (p1 &&& (255 : Int32)) (((p1.toUInt32 >>> ((8 : Int32) &&& 31).toUInt32).toInt32) &&& (255 : Int32)))) ++ [(58 : Int32), (32 : Int32)]).length)) (own_snl2 rfl) ?_
  refine X31.istore i33_128 (Ls' := #[.val (.int p0), .val (.int p1), .val (.int p2), .val (.ref a1), .val (.ref x_19), .val (.ref m_19), .val (.ref a24), .val (.int (Int32.ofNat ((((([] : List Int32) ++ (own_mk rr0 (p0 &&& (255 : Int32)) (((p0.toUInt32 >>> ((8 : Int32) &&& 31).toUInt32).toInt32) &&& (255 : Int32)))) ++ [(58 : Int32), (32 : Int32)]) ++ (own_mk rr1 (p1 &&& (255 : Int32)) (((p1.toUInt32 >>> ((8 : Int32) &&& 31).toUInt32).toInt32) &&& (255 : Int32)))) ++ [(58 : Int32), (32 : Int32)]).length))]) rfl ?_
  refine X31.aload i33_130 rfl rfl ?_
  refine X31.iload i33_132 rfl ?_
  refine X31.iload_n i33_134 rfl ?_
  refine X31.callS hl (argsL := [(.ref a24), (.int (Int32.ofNat ((((([] : List Int32) ++ (own_mk rr0 (p0 &&& (255 : Int32)) (((p0.toUInt32 >>> ((8 : Int32) &&& 31).toUInt32).toInt32) &&& (255 : Int32)))) ++ [(58 : Int32), (32 : Int32)]) ++ (own_mk rr1 (p1 &&& (255 : Int32)) (((p1.toUInt32 >>> ((8 : Int32) &&& 31).toUInt32).toInt32) &&& (255 : Int32)))) ++ [(58 : Int32), (32 : Int32)]).length)), (.int p2)]) i33_135 (c_put_ l hw hEL hcs hcz hfm hfr hst hKn hus hss X31.old a24 c24 ((((([] : List Int32) ++ (own_mk rr0 (p0 &&& (255 : Int32)) (((p0.toUInt32 >>> ((8 : Int32) &&& 31).toUInt32).toInt32) &&& (255 : Int32)))) ++ [(58 : Int32), (32 : Int32)]) ++ (own_mk rr1 (p1 &&& (255 : Int32)) (((p1.toUInt32 >>> ((8 : Int32) &&& 31).toUInt32).toInt32) &&& (255 : Int32)))) ++ [(58 : Int32), (32 : Int32)]) p2 rr2 (((((([] : List Int32) ++ (own_mk rr0 (p0 &&& (255 : Int32)) (((p0.toUInt32 >>> ((8 : Int32) &&& 31).toUInt32).toInt32) &&& (255 : Int32)))) ++ [(58 : Int32), (32 : Int32)]) ++ (own_mk rr1 (p1 &&& (255 : Int32)) (((p1.toUInt32 >>> ((8 : Int32) &&& 31).toUInt32).toInt32) &&& (255 : Int32)))) ++ [(58 : Int32), (32 : Int32)]) ++ (own_mk rr2 (p2 &&& (255 : Int32)) (((p2.toUInt32 >>> ((8 : Int32) &&& 31).toUInt32).toInt32) &&& (255 : Int32)))) V31 g24 hh2 hq2 (by have := hm0; have := hm1; simp only [List.length_append, List.length_cons, List.length_nil]; omega) rfl) (hw _ wd_228) (hw _ wd_229) (hw _ wd_5) (hw _ wd_230) (by decide) sf_nil pd24 rfl rfl rfl (W := 0) rfl (by decide) (by decide) (k' := 30) rfl (n' := 2870) rfl (by decide) (by decide) fun vm32 T32 h32 v32 X32 r32 Q32 => ?_
  obtain ⟨rfl, q32_0, q32_1⟩ := Q32
  show Go _ _ _ _ _ _ _ T32 138 #[.val (.int p0), .val (.int p1), .val (.int p2), .val (.ref a1), .val (.ref x_19), .val (.ref m_19), .val (.ref a24), .val (.int (Int32.ofNat ((((([] : List Int32) ++ (own_mk rr0 (p0 &&& (255 : Int32)) (((p0.toUInt32 >>> ((8 : Int32) &&& 31).toUInt32).toInt32) &&& (255 : Int32)))) ++ [(58 : Int32), (32 : Int32)]) ++ (own_mk rr1 (p1 &&& (255 : Int32)) (((p1.toUInt32 >>> ((8 : Int32) &&& 31).toUInt32).toInt32) &&& (255 : Int32)))) ++ [(58 : Int32), (32 : Int32)]).length))] [(.int (Int32.ofNat (((((([] : List Int32) ++ (own_mk rr0 (p0 &&& (255 : Int32)) (((p0.toUInt32 >>> ((8 : Int32) &&& 31).toUInt32).toInt32) &&& (255 : Int32)))) ++ [(58 : Int32), (32 : Int32)]) ++ (own_mk rr1 (p1 &&& (255 : Int32)) (((p1.toUInt32 >>> ((8 : Int32) &&& 31).toUInt32).toInt32) &&& (255 : Int32)))) ++ [(58 : Int32), (32 : Int32)]) ++ (own_mk rr2 (p2 &&& (255 : Int32)) (((p2.toUInt32 >>> ((8 : Int32) &&& 31).toUInt32).toInt32) &&& (255 : Int32)))).length))]
  have hCS : (((((([] : List Int32) ++ (own_mk rr0 (p0 &&& (255 : Int32)) (((p0.toUInt32 >>> ((8 : Int32) &&& 31).toUInt32).toInt32) &&& (255 : Int32)))) ++ [(58 : Int32), (32 : Int32)]) ++ (own_mk rr1 (p1 &&& (255 : Int32)) (((p1.toUInt32 >>> ((8 : Int32) &&& 31).toUInt32).toInt32) &&& (255 : Int32)))) ++ [(58 : Int32), (32 : Int32)]) ++ (own_mk rr2 (p2 &&& (255 : Int32)) (((p2.toUInt32 >>> ((8 : Int32) &&& 31).toUInt32).toInt32) &&& (255 : Int32)))).length ≤ 10 := by have := hm0; have := hm1; have := hm2; simp only [List.length_append, List.length_cons, List.length_nil]; omega
  refine X32.istore i33_138 (Ls' := #[.val (.int p0), .val (.int p1), .val (.int p2), .val (.ref a1), .val (.ref x_19), .val (.ref m_19), .val (.ref a24), .val (.int (Int32.ofNat (((((([] : List Int32) ++ (own_mk rr0 (p0 &&& (255 : Int32)) (((p0.toUInt32 >>> ((8 : Int32) &&& 31).toUInt32).toInt32) &&& (255 : Int32)))) ++ [(58 : Int32), (32 : Int32)]) ++ (own_mk rr1 (p1 &&& (255 : Int32)) (((p1.toUInt32 >>> ((8 : Int32) &&& 31).toUInt32).toInt32) &&& (255 : Int32)))) ++ [(58 : Int32), (32 : Int32)]) ++ (own_mk rr2 (p2 &&& (255 : Int32)) (((p2.toUInt32 >>> ((8 : Int32) &&& 31).toUInt32).toInt32) &&& (255 : Int32)))).length))]) rfl ?_
  refine X32.aload i33_140 rfl rfl ?_
  have S33 := ((((((((q19_6.ext E24).keep q26_0 (ninS (Nat.ne_of_lt (Nat.lt_of_lt_of_le (Nat.lt_of_lt_of_le (q19_6).lt (Nat.le_refl _)) (Nat.le_of_eq z24))) nin0) (ninS (Nat.ne_of_lt (Nat.lt_of_lt_of_le (Nat.lt_of_lt_of_le (q19_6).ltT (Nat.le_refl _)) (Nat.le_of_eq z24))) nin0)).wr W27 (Nat.ne_of_lt (Nat.lt_of_lt_of_le (Nat.lt_of_lt_of_le (q19_6).lt (Nat.le_refl _)) (Nat.le_of_eq z24))) (Nat.ne_of_lt (Nat.lt_of_lt_of_le (Nat.lt_of_lt_of_le (q19_6).ltT (Nat.le_refl _)) (Nat.le_of_eq z24)))).wr W28 (Nat.ne_of_lt (Nat.lt_of_lt_of_le (Nat.lt_of_lt_of_le (q19_6).lt (Nat.le_refl _)) (Nat.le_of_eq z24))) (Nat.ne_of_lt (Nat.lt_of_lt_of_le (Nat.lt_of_lt_of_le (q19_6).ltT (Nat.le_refl _)) (Nat.le_of_eq z24)))).keep q29_0 (ninS (Nat.ne_of_lt (Nat.lt_of_lt_of_le (Nat.lt_of_lt_of_le (q19_6).lt (Nat.le_refl _)) (Nat.le_of_eq z24))) nin0) (ninS (Nat.ne_of_lt (Nat.lt_of_lt_of_le (Nat.lt_of_lt_of_le (q19_6).ltT (Nat.le_refl _)) (Nat.le_of_eq z24))) nin0)).wr W30 (Nat.ne_of_lt (Nat.lt_of_lt_of_le (Nat.lt_of_lt_of_le (q19_6).lt (Nat.le_refl _)) (Nat.le_of_eq z24))) (Nat.ne_of_lt (Nat.lt_of_lt_of_le (Nat.lt_of_lt_of_le (q19_6).ltT (Nat.le_refl _)) (Nat.le_of_eq z24)))).wr W31 (Nat.ne_of_lt (Nat.lt_of_lt_of_le (Nat.lt_of_lt_of_le (q19_6).lt (Nat.le_refl _)) (Nat.le_of_eq z24))) (Nat.ne_of_lt (Nat.lt_of_lt_of_le (Nat.lt_of_lt_of_le (q19_6).ltT (Nat.le_refl _)) (Nat.le_of_eq z24)))).keep q32_0 (ninS (Nat.ne_of_lt (Nat.lt_of_lt_of_le (Nat.lt_of_lt_of_le (q19_6).lt (Nat.le_refl _)) (Nat.le_of_eq z24))) nin0) (ninS (Nat.ne_of_lt (Nat.lt_of_lt_of_le (Nat.lt_of_lt_of_le (q19_6).ltT (Nat.le_refl _)) (Nat.le_of_eq z24))) nin0))
  refine own_strLen X32 hw i33_142 (hw _ wd_231) S33 (Nat.le_trans hCS (by decide)) hcs hcz rfl (W := 0) rfl (by decide) (by decide) (by decide) (by decide) rfl fun T34 X34 => ?_
  refine X34.iload i33_145 rfl ?_
  refine X34.icY i33_147 j147_5 (teq rfl).1 ?_
  refine X34.aload i33_152 rfl rfl ?_
  refine X34.aload i33_154 rfl rfl ?_
  refine X34.iload i33_156 rfl ?_
  refine X34.iconst i33_158 (z := (0 : Int32)) rfl ?_
  refine X34.callS hl (argsL := [(.ref m_19), (.ref a24), (.int (Int32.ofNat (((((([] : List Int32) ++ (own_mk rr0 (p0 &&& (255 : Int32)) (((p0.toUInt32 >>> ((8 : Int32) &&& 31).toUInt32).toInt32) &&& (255 : Int32)))) ++ [(58 : Int32), (32 : Int32)]) ++ (own_mk rr1 (p1 &&& (255 : Int32)) (((p1.toUInt32 >>> ((8 : Int32) &&& 31).toUInt32).toInt32) &&& (255 : Int32)))) ++ [(58 : Int32), (32 : Int32)]) ++ (own_mk rr2 (p2 &&& (255 : Int32)) (((p2.toUInt32 >>> ((8 : Int32) &&& 31).toUInt32).toInt32) &&& (255 : Int32)))).length)), (.int (0 : Int32))]) i33_159 (c_same l hw hEL hcs hcz hfm hfr hst hKn hus hss X34.old m_19 tm_19 km_19 (((((([] : List Int32) ++ (own_mk rr0 (p0 &&& (255 : Int32)) (((p0.toUInt32 >>> ((8 : Int32) &&& 31).toUInt32).toInt32) &&& (255 : Int32)))) ++ [(58 : Int32), (32 : Int32)]) ++ (own_mk rr1 (p1 &&& (255 : Int32)) (((p1.toUInt32 >>> ((8 : Int32) &&& 31).toUInt32).toInt32) &&& (255 : Int32)))) ++ [(58 : Int32), (32 : Int32)]) ++ (own_mk rr2 (p2 &&& (255 : Int32)) (((p2.toUInt32 >>> ((8 : Int32) &&& 31).toUInt32).toInt32) &&& (255 : Int32)))) a24 c24 0 S33 q32_1 hCS (Nat.le_of_ble_eq_true rfl)) (hw _ wd_232) (hw _ wd_233) (hw _ wd_5) (hw _ wd_234) (by decide) sf_nil pd25 rfl rfl rfl (W := 0) rfl (by decide) (by decide) (k' := 30) rfl (n' := 2870) rfl (by decide) (by decide) fun vm35 T35 h35 v35 X35 r35 Q35 => ?_
  obtain ⟨rfl, rfl⟩ := Q35
  show Go _ _ _ _ _ _ _ T35 162 #[.val (.int p0), .val (.int p1), .val (.int p2), .val (.ref a1), .val (.ref x_19), .val (.ref m_19), .val (.ref a24), .val (.int (Int32.ofNat (((((([] : List Int32) ++ (own_mk rr0 (p0 &&& (255 : Int32)) (((p0.toUInt32 >>> ((8 : Int32) &&& 31).toUInt32).toInt32) &&& (255 : Int32)))) ++ [(58 : Int32), (32 : Int32)]) ++ (own_mk rr1 (p1 &&& (255 : Int32)) (((p1.toUInt32 >>> ((8 : Int32) &&& 31).toUInt32).toInt32) &&& (255 : Int32)))) ++ [(58 : Int32), (32 : Int32)]) ++ (own_mk rr2 (p2 &&& (255 : Int32)) (((p2.toUInt32 >>> ((8 : Int32) &&& 31).toUInt32).toInt32) &&& (255 : Int32)))).length))] [(.int (1 : Int32))]
  refine X35.ifN i33_162 (by decide) ?_
  refine X35.aload i33_165 rfl rfl ?_
  refine X35.aload i33_167 rfl rfl ?_
  refine X35.iload i33_169 rfl ?_
  refine X35.iconst i33_171 (z := (1 : Int32)) rfl ?_
  refine X35.callS hl (argsL := [(.ref m_19), (.ref a24), (.int (Int32.ofNat (((((([] : List Int32) ++ (own_mk rr0 (p0 &&& (255 : Int32)) (((p0.toUInt32 >>> ((8 : Int32) &&& 31).toUInt32).toInt32) &&& (255 : Int32)))) ++ [(58 : Int32), (32 : Int32)]) ++ (own_mk rr1 (p1 &&& (255 : Int32)) (((p1.toUInt32 >>> ((8 : Int32) &&& 31).toUInt32).toInt32) &&& (255 : Int32)))) ++ [(58 : Int32), (32 : Int32)]) ++ (own_mk rr2 (p2 &&& (255 : Int32)) (((p2.toUInt32 >>> ((8 : Int32) &&& 31).toUInt32).toInt32) &&& (255 : Int32)))).length)), (.int (1 : Int32))]) i33_172 (c_same l hw hEL hcs hcz hfm hfr hst hKn hus hss X35.old m_19 tm_19 km_19 (((((([] : List Int32) ++ (own_mk rr0 (p0 &&& (255 : Int32)) (((p0.toUInt32 >>> ((8 : Int32) &&& 31).toUInt32).toInt32) &&& (255 : Int32)))) ++ [(58 : Int32), (32 : Int32)]) ++ (own_mk rr1 (p1 &&& (255 : Int32)) (((p1.toUInt32 >>> ((8 : Int32) &&& 31).toUInt32).toInt32) &&& (255 : Int32)))) ++ [(58 : Int32), (32 : Int32)]) ++ (own_mk rr2 (p2 &&& (255 : Int32)) (((p2.toUInt32 >>> ((8 : Int32) &&& 31).toUInt32).toInt32) &&& (255 : Int32)))) a24 c24 1 S33 q32_1 hCS (Nat.le_of_ble_eq_true rfl)) (hw _ wd_232) (hw _ wd_233) (hw _ wd_5) (hw _ wd_234) (by decide) sf_nil pd25 rfl rfl rfl (W := 0) rfl (by decide) (by decide) (k' := 30) rfl (n' := 2870) rfl (by decide) (by decide) fun vm36 T36 h36 v36 X36 r36 Q36 => ?_
  obtain ⟨rfl, rfl⟩ := Q36
  show Go _ _ _ _ _ _ _ T36 175 #[.val (.int p0), .val (.int p1), .val (.int p2), .val (.ref a1), .val (.ref x_19), .val (.ref m_19), .val (.ref a24), .val (.int (Int32.ofNat (((((([] : List Int32) ++ (own_mk rr0 (p0 &&& (255 : Int32)) (((p0.toUInt32 >>> ((8 : Int32) &&& 31).toUInt32).toInt32) &&& (255 : Int32)))) ++ [(58 : Int32), (32 : Int32)]) ++ (own_mk rr1 (p1 &&& (255 : Int32)) (((p1.toUInt32 >>> ((8 : Int32) &&& 31).toUInt32).toInt32) &&& (255 : Int32)))) ++ [(58 : Int32), (32 : Int32)]) ++ (own_mk rr2 (p2 &&& (255 : Int32)) (((p2.toUInt32 >>> ((8 : Int32) &&& 31).toUInt32).toInt32) &&& (255 : Int32)))).length))] [(.int (1 : Int32))]
  refine X36.ifN i33_175 (by decide) ?_
  refine X36.aload i33_178 rfl rfl ?_
  refine X36.aload i33_180 rfl rfl ?_
  refine X36.iload i33_182 rfl ?_
  refine X36.iconst i33_184 (z := (2 : Int32)) rfl ?_
  refine X36.callS hl (argsL := [(.ref m_19), (.ref a24), (.int (Int32.ofNat (((((([] : List Int32) ++ (own_mk rr0 (p0 &&& (255 : Int32)) (((p0.toUInt32 >>> ((8 : Int32) &&& 31).toUInt32).toInt32) &&& (255 : Int32)))) ++ [(58 : Int32), (32 : Int32)]) ++ (own_mk rr1 (p1 &&& (255 : Int32)) (((p1.toUInt32 >>> ((8 : Int32) &&& 31).toUInt32).toInt32) &&& (255 : Int32)))) ++ [(58 : Int32), (32 : Int32)]) ++ (own_mk rr2 (p2 &&& (255 : Int32)) (((p2.toUInt32 >>> ((8 : Int32) &&& 31).toUInt32).toInt32) &&& (255 : Int32)))).length)), (.int (2 : Int32))]) i33_185 (c_same l hw hEL hcs hcz hfm hfr hst hKn hus hss X36.old m_19 tm_19 km_19 (((((([] : List Int32) ++ (own_mk rr0 (p0 &&& (255 : Int32)) (((p0.toUInt32 >>> ((8 : Int32) &&& 31).toUInt32).toInt32) &&& (255 : Int32)))) ++ [(58 : Int32), (32 : Int32)]) ++ (own_mk rr1 (p1 &&& (255 : Int32)) (((p1.toUInt32 >>> ((8 : Int32) &&& 31).toUInt32).toInt32) &&& (255 : Int32)))) ++ [(58 : Int32), (32 : Int32)]) ++ (own_mk rr2 (p2 &&& (255 : Int32)) (((p2.toUInt32 >>> ((8 : Int32) &&& 31).toUInt32).toInt32) &&& (255 : Int32)))) a24 c24 2 S33 q32_1 hCS (Nat.le_of_ble_eq_true rfl)) (hw _ wd_232) (hw _ wd_233) (hw _ wd_5) (hw _ wd_234) (by decide) sf_nil pd25 rfl rfl rfl (W := 0) rfl (by decide) (by decide) (k' := 30) rfl (n' := 2870) rfl (by decide) (by decide) fun vm37 T37 h37 v37 X37 r37 Q37 => ?_
  obtain ⟨rfl, rfl⟩ := Q37
  show Go _ _ _ _ _ _ _ T37 188 #[.val (.int p0), .val (.int p1), .val (.int p2), .val (.ref a1), .val (.ref x_19), .val (.ref m_19), .val (.ref a24), .val (.int (Int32.ofNat (((((([] : List Int32) ++ (own_mk rr0 (p0 &&& (255 : Int32)) (((p0.toUInt32 >>> ((8 : Int32) &&& 31).toUInt32).toInt32) &&& (255 : Int32)))) ++ [(58 : Int32), (32 : Int32)]) ++ (own_mk rr1 (p1 &&& (255 : Int32)) (((p1.toUInt32 >>> ((8 : Int32) &&& 31).toUInt32).toInt32) &&& (255 : Int32)))) ++ [(58 : Int32), (32 : Int32)]) ++ (own_mk rr2 (p2 &&& (255 : Int32)) (((p2.toUInt32 >>> ((8 : Int32) &&& 31).toUInt32).toInt32) &&& (255 : Int32)))).length))] [(.int (1 : Int32))]
  refine X37.ifN i33_188 (by decide) ?_
  refine X37.aload i33_191 rfl rfl ?_
  refine X37.aload i33_193 rfl rfl ?_
  refine X37.iload i33_195 rfl ?_
  refine X37.iconst i33_197 (z := (3 : Int32)) rfl ?_
  refine X37.callS hl (argsL := [(.ref m_19), (.ref a24), (.int (Int32.ofNat (((((([] : List Int32) ++ (own_mk rr0 (p0 &&& (255 : Int32)) (((p0.toUInt32 >>> ((8 : Int32) &&& 31).toUInt32).toInt32) &&& (255 : Int32)))) ++ [(58 : Int32), (32 : Int32)]) ++ (own_mk rr1 (p1 &&& (255 : Int32)) (((p1.toUInt32 >>> ((8 : Int32) &&& 31).toUInt32).toInt32) &&& (255 : Int32)))) ++ [(58 : Int32), (32 : Int32)]) ++ (own_mk rr2 (p2 &&& (255 : Int32)) (((p2.toUInt32 >>> ((8 : Int32) &&& 31).toUInt32).toInt32) &&& (255 : Int32)))).length)), (.int (3 : Int32))]) i33_198 (c_same l hw hEL hcs hcz hfm hfr hst hKn hus hss X37.old m_19 tm_19 km_19 (((((([] : List Int32) ++ (own_mk rr0 (p0 &&& (255 : Int32)) (((p0.toUInt32 >>> ((8 : Int32) &&& 31).toUInt32).toInt32) &&& (255 : Int32)))) ++ [(58 : Int32), (32 : Int32)]) ++ (own_mk rr1 (p1 &&& (255 : Int32)) (((p1.toUInt32 >>> ((8 : Int32) &&& 31).toUInt32).toInt32) &&& (255 : Int32)))) ++ [(58 : Int32), (32 : Int32)]) ++ (own_mk rr2 (p2 &&& (255 : Int32)) (((p2.toUInt32 >>> ((8 : Int32) &&& 31).toUInt32).toInt32) &&& (255 : Int32)))) a24 c24 3 S33 q32_1 hCS (Nat.le_of_ble_eq_true rfl)) (hw _ wd_232) (hw _ wd_233) (hw _ wd_5) (hw _ wd_234) (by decide) sf_nil pd25 rfl rfl rfl (W := 0) rfl (by decide) (by decide) (k' := 30) rfl (n' := 2870) rfl (by decide) (by decide) fun vm38 T38 h38 v38 X38 r38 Q38 => ?_
  obtain ⟨rfl, rfl⟩ := Q38
  show Go _ _ _ _ _ _ _ T38 201 #[.val (.int p0), .val (.int p1), .val (.int p2), .val (.ref a1), .val (.ref x_19), .val (.ref m_19), .val (.ref a24), .val (.int (Int32.ofNat (((((([] : List Int32) ++ (own_mk rr0 (p0 &&& (255 : Int32)) (((p0.toUInt32 >>> ((8 : Int32) &&& 31).toUInt32).toInt32) &&& (255 : Int32)))) ++ [(58 : Int32), (32 : Int32)]) ++ (own_mk rr1 (p1 &&& (255 : Int32)) (((p1.toUInt32 >>> ((8 : Int32) &&& 31).toUInt32).toInt32) &&& (255 : Int32)))) ++ [(58 : Int32), (32 : Int32)]) ++ (own_mk rr2 (p2 &&& (255 : Int32)) (((p2.toUInt32 >>> ((8 : Int32) &&& 31).toUInt32).toInt32) &&& (255 : Int32)))).length))] [(.int (1 : Int32))]
  refine X38.ifN i33_201 (by decide) ?_
  refine X38.aload i33_204 rfl rfl ?_
  refine X38.aload i33_206 rfl rfl ?_
  refine X38.iload i33_208 rfl ?_
  refine X38.iconst i33_210 (z := (4 : Int32)) rfl ?_
  refine X38.callS hl (argsL := [(.ref m_19), (.ref a24), (.int (Int32.ofNat (((((([] : List Int32) ++ (own_mk rr0 (p0 &&& (255 : Int32)) (((p0.toUInt32 >>> ((8 : Int32) &&& 31).toUInt32).toInt32) &&& (255 : Int32)))) ++ [(58 : Int32), (32 : Int32)]) ++ (own_mk rr1 (p1 &&& (255 : Int32)) (((p1.toUInt32 >>> ((8 : Int32) &&& 31).toUInt32).toInt32) &&& (255 : Int32)))) ++ [(58 : Int32), (32 : Int32)]) ++ (own_mk rr2 (p2 &&& (255 : Int32)) (((p2.toUInt32 >>> ((8 : Int32) &&& 31).toUInt32).toInt32) &&& (255 : Int32)))).length)), (.int (4 : Int32))]) i33_211 (c_same l hw hEL hcs hcz hfm hfr hst hKn hus hss X38.old m_19 tm_19 km_19 (((((([] : List Int32) ++ (own_mk rr0 (p0 &&& (255 : Int32)) (((p0.toUInt32 >>> ((8 : Int32) &&& 31).toUInt32).toInt32) &&& (255 : Int32)))) ++ [(58 : Int32), (32 : Int32)]) ++ (own_mk rr1 (p1 &&& (255 : Int32)) (((p1.toUInt32 >>> ((8 : Int32) &&& 31).toUInt32).toInt32) &&& (255 : Int32)))) ++ [(58 : Int32), (32 : Int32)]) ++ (own_mk rr2 (p2 &&& (255 : Int32)) (((p2.toUInt32 >>> ((8 : Int32) &&& 31).toUInt32).toInt32) &&& (255 : Int32)))) a24 c24 4 S33 q32_1 hCS (Nat.le_of_ble_eq_true rfl)) (hw _ wd_232) (hw _ wd_233) (hw _ wd_5) (hw _ wd_234) (by decide) sf_nil pd25 rfl rfl rfl (W := 0) rfl (by decide) (by decide) (k' := 30) rfl (n' := 2870) rfl (by decide) (by decide) fun vm39 T39 h39 v39 X39 r39 Q39 => ?_
  obtain ⟨rfl, rfl⟩ := Q39
  show Go _ _ _ _ _ _ _ T39 214 #[.val (.int p0), .val (.int p1), .val (.int p2), .val (.ref a1), .val (.ref x_19), .val (.ref m_19), .val (.ref a24), .val (.int (Int32.ofNat (((((([] : List Int32) ++ (own_mk rr0 (p0 &&& (255 : Int32)) (((p0.toUInt32 >>> ((8 : Int32) &&& 31).toUInt32).toInt32) &&& (255 : Int32)))) ++ [(58 : Int32), (32 : Int32)]) ++ (own_mk rr1 (p1 &&& (255 : Int32)) (((p1.toUInt32 >>> ((8 : Int32) &&& 31).toUInt32).toInt32) &&& (255 : Int32)))) ++ [(58 : Int32), (32 : Int32)]) ++ (own_mk rr2 (p2 &&& (255 : Int32)) (((p2.toUInt32 >>> ((8 : Int32) &&& 31).toUInt32).toInt32) &&& (255 : Int32)))).length))] [(.int (1 : Int32))]
  refine X39.ifN i33_214 (by decide) ?_
  refine X39.aload i33_217 rfl rfl ?_
  refine X39.aload i33_219 rfl rfl ?_
  refine X39.iload i33_221 rfl ?_
  refine X39.iconst i33_223 (z := (5 : Int32)) rfl ?_
  refine X39.callS hl (argsL := [(.ref m_19), (.ref a24), (.int (Int32.ofNat (((((([] : List Int32) ++ (own_mk rr0 (p0 &&& (255 : Int32)) (((p0.toUInt32 >>> ((8 : Int32) &&& 31).toUInt32).toInt32) &&& (255 : Int32)))) ++ [(58 : Int32), (32 : Int32)]) ++ (own_mk rr1 (p1 &&& (255 : Int32)) (((p1.toUInt32 >>> ((8 : Int32) &&& 31).toUInt32).toInt32) &&& (255 : Int32)))) ++ [(58 : Int32), (32 : Int32)]) ++ (own_mk rr2 (p2 &&& (255 : Int32)) (((p2.toUInt32 >>> ((8 : Int32) &&& 31).toUInt32).toInt32) &&& (255 : Int32)))).length)), (.int (5 : Int32))]) i33_224 (c_same l hw hEL hcs hcz hfm hfr hst hKn hus hss X39.old m_19 tm_19 km_19 (((((([] : List Int32) ++ (own_mk rr0 (p0 &&& (255 : Int32)) (((p0.toUInt32 >>> ((8 : Int32) &&& 31).toUInt32).toInt32) &&& (255 : Int32)))) ++ [(58 : Int32), (32 : Int32)]) ++ (own_mk rr1 (p1 &&& (255 : Int32)) (((p1.toUInt32 >>> ((8 : Int32) &&& 31).toUInt32).toInt32) &&& (255 : Int32)))) ++ [(58 : Int32), (32 : Int32)]) ++ (own_mk rr2 (p2 &&& (255 : Int32)) (((p2.toUInt32 >>> ((8 : Int32) &&& 31).toUInt32).toInt32) &&& (255 : Int32)))) a24 c24 5 S33 q32_1 hCS (Nat.le_of_ble_eq_true rfl)) (hw _ wd_232) (hw _ wd_233) (hw _ wd_5) (hw _ wd_234) (by decide) sf_nil pd25 rfl rfl rfl (W := 0) rfl (by decide) (by decide) (k' := 30) rfl (n' := 2870) rfl (by decide) (by decide) fun vm40 T40 h40 v40 X40 r40 Q40 => ?_
  obtain ⟨rfl, rfl⟩ := Q40
  show Go _ _ _ _ _ _ _ T40 227 #[.val (.int p0), .val (.int p1), .val (.int p2), .val (.ref a1), .val (.ref x_19), .val (.ref m_19), .val (.ref a24), .val (.int (Int32.ofNat (((((([] : List Int32) ++ (own_mk rr0 (p0 &&& (255 : Int32)) (((p0.toUInt32 >>> ((8 : Int32) &&& 31).toUInt32).toInt32) &&& (255 : Int32)))) ++ [(58 : Int32), (32 : Int32)]) ++ (own_mk rr1 (p1 &&& (255 : Int32)) (((p1.toUInt32 >>> ((8 : Int32) &&& 31).toUInt32).toInt32) &&& (255 : Int32)))) ++ [(58 : Int32), (32 : Int32)]) ++ (own_mk rr2 (p2 &&& (255 : Int32)) (((p2.toUInt32 >>> ((8 : Int32) &&& 31).toUInt32).toInt32) &&& (255 : Int32)))).length))] [(.int (1 : Int32))]
  refine X40.ifN i33_227 (by decide) ?_
  refine X40.aload i33_230 rfl rfl ?_
  refine X40.aload i33_232 rfl rfl ?_
  refine X40.iload i33_234 rfl ?_
  refine X40.bipush i33_236 (z := (6 : Int32)) rfl ?_
  refine X40.callS hl (argsL := [(.ref m_19), (.ref a24), (.int (Int32.ofNat (((((([] : List Int32) ++ (own_mk rr0 (p0 &&& (255 : Int32)) (((p0.toUInt32 >>> ((8 : Int32) &&& 31).toUInt32).toInt32) &&& (255 : Int32)))) ++ [(58 : Int32), (32 : Int32)]) ++ (own_mk rr1 (p1 &&& (255 : Int32)) (((p1.toUInt32 >>> ((8 : Int32) &&& 31).toUInt32).toInt32) &&& (255 : Int32)))) ++ [(58 : Int32), (32 : Int32)]) ++ (own_mk rr2 (p2 &&& (255 : Int32)) (((p2.toUInt32 >>> ((8 : Int32) &&& 31).toUInt32).toInt32) &&& (255 : Int32)))).length)), (.int (6 : Int32))]) i33_238 (c_same l hw hEL hcs hcz hfm hfr hst hKn hus hss X40.old m_19 tm_19 km_19 (((((([] : List Int32) ++ (own_mk rr0 (p0 &&& (255 : Int32)) (((p0.toUInt32 >>> ((8 : Int32) &&& 31).toUInt32).toInt32) &&& (255 : Int32)))) ++ [(58 : Int32), (32 : Int32)]) ++ (own_mk rr1 (p1 &&& (255 : Int32)) (((p1.toUInt32 >>> ((8 : Int32) &&& 31).toUInt32).toInt32) &&& (255 : Int32)))) ++ [(58 : Int32), (32 : Int32)]) ++ (own_mk rr2 (p2 &&& (255 : Int32)) (((p2.toUInt32 >>> ((8 : Int32) &&& 31).toUInt32).toInt32) &&& (255 : Int32)))) a24 c24 6 S33 q32_1 hCS (Nat.le_of_ble_eq_true rfl)) (hw _ wd_232) (hw _ wd_233) (hw _ wd_5) (hw _ wd_234) (by decide) sf_nil pd25 rfl rfl rfl (W := 0) rfl (by decide) (by decide) (k' := 30) rfl (n' := 2870) rfl (by decide) (by decide) fun vm41 T41 h41 v41 X41 r41 Q41 => ?_
  obtain ⟨rfl, rfl⟩ := Q41
  show Go _ _ _ _ _ _ _ T41 241 #[.val (.int p0), .val (.int p1), .val (.int p2), .val (.ref a1), .val (.ref x_19), .val (.ref m_19), .val (.ref a24), .val (.int (Int32.ofNat (((((([] : List Int32) ++ (own_mk rr0 (p0 &&& (255 : Int32)) (((p0.toUInt32 >>> ((8 : Int32) &&& 31).toUInt32).toInt32) &&& (255 : Int32)))) ++ [(58 : Int32), (32 : Int32)]) ++ (own_mk rr1 (p1 &&& (255 : Int32)) (((p1.toUInt32 >>> ((8 : Int32) &&& 31).toUInt32).toInt32) &&& (255 : Int32)))) ++ [(58 : Int32), (32 : Int32)]) ++ (own_mk rr2 (p2 &&& (255 : Int32)) (((p2.toUInt32 >>> ((8 : Int32) &&& 31).toUInt32).toInt32) &&& (255 : Int32)))).length))] [(.int (1 : Int32))]
  refine X41.ifN i33_241 (by decide) ?_
  refine X41.aload i33_244 rfl rfl ?_
  refine X41.aload i33_246 rfl rfl ?_
  refine X41.iload i33_248 rfl ?_
  refine X41.bipush i33_250 (z := (7 : Int32)) rfl ?_
  refine X41.callS hl (argsL := [(.ref m_19), (.ref a24), (.int (Int32.ofNat (((((([] : List Int32) ++ (own_mk rr0 (p0 &&& (255 : Int32)) (((p0.toUInt32 >>> ((8 : Int32) &&& 31).toUInt32).toInt32) &&& (255 : Int32)))) ++ [(58 : Int32), (32 : Int32)]) ++ (own_mk rr1 (p1 &&& (255 : Int32)) (((p1.toUInt32 >>> ((8 : Int32) &&& 31).toUInt32).toInt32) &&& (255 : Int32)))) ++ [(58 : Int32), (32 : Int32)]) ++ (own_mk rr2 (p2 &&& (255 : Int32)) (((p2.toUInt32 >>> ((8 : Int32) &&& 31).toUInt32).toInt32) &&& (255 : Int32)))).length)), (.int (7 : Int32))]) i33_252 (c_same l hw hEL hcs hcz hfm hfr hst hKn hus hss X41.old m_19 tm_19 km_19 (((((([] : List Int32) ++ (own_mk rr0 (p0 &&& (255 : Int32)) (((p0.toUInt32 >>> ((8 : Int32) &&& 31).toUInt32).toInt32) &&& (255 : Int32)))) ++ [(58 : Int32), (32 : Int32)]) ++ (own_mk rr1 (p1 &&& (255 : Int32)) (((p1.toUInt32 >>> ((8 : Int32) &&& 31).toUInt32).toInt32) &&& (255 : Int32)))) ++ [(58 : Int32), (32 : Int32)]) ++ (own_mk rr2 (p2 &&& (255 : Int32)) (((p2.toUInt32 >>> ((8 : Int32) &&& 31).toUInt32).toInt32) &&& (255 : Int32)))) a24 c24 7 S33 q32_1 hCS (Nat.le_of_ble_eq_true rfl)) (hw _ wd_232) (hw _ wd_233) (hw _ wd_5) (hw _ wd_234) (by decide) sf_nil pd25 rfl rfl rfl (W := 0) rfl (by decide) (by decide) (k' := 30) rfl (n' := 2870) rfl (by decide) (by decide) fun vm42 T42 h42 v42 X42 r42 Q42 => ?_
  obtain ⟨rfl, rfl⟩ := Q42
  show Go _ _ _ _ _ _ _ T42 255 #[.val (.int p0), .val (.int p1), .val (.int p2), .val (.ref a1), .val (.ref x_19), .val (.ref m_19), .val (.ref a24), .val (.int (Int32.ofNat (((((([] : List Int32) ++ (own_mk rr0 (p0 &&& (255 : Int32)) (((p0.toUInt32 >>> ((8 : Int32) &&& 31).toUInt32).toInt32) &&& (255 : Int32)))) ++ [(58 : Int32), (32 : Int32)]) ++ (own_mk rr1 (p1 &&& (255 : Int32)) (((p1.toUInt32 >>> ((8 : Int32) &&& 31).toUInt32).toInt32) &&& (255 : Int32)))) ++ [(58 : Int32), (32 : Int32)]) ++ (own_mk rr2 (p2 &&& (255 : Int32)) (((p2.toUInt32 >>> ((8 : Int32) &&& 31).toUInt32).toInt32) &&& (255 : Int32)))).length))] [(.int (1 : Int32))]
  refine X42.ifN i33_255 (by decide) ?_
  refine X42.aload i33_258 rfl rfl ?_
  refine X42.aload i33_260 rfl rfl ?_
  refine X42.iload i33_262 rfl ?_
  refine X42.bipush i33_264 (z := (8 : Int32)) rfl ?_
  refine X42.callS hl (argsL := [(.ref m_19), (.ref a24), (.int (Int32.ofNat (((((([] : List Int32) ++ (own_mk rr0 (p0 &&& (255 : Int32)) (((p0.toUInt32 >>> ((8 : Int32) &&& 31).toUInt32).toInt32) &&& (255 : Int32)))) ++ [(58 : Int32), (32 : Int32)]) ++ (own_mk rr1 (p1 &&& (255 : Int32)) (((p1.toUInt32 >>> ((8 : Int32) &&& 31).toUInt32).toInt32) &&& (255 : Int32)))) ++ [(58 : Int32), (32 : Int32)]) ++ (own_mk rr2 (p2 &&& (255 : Int32)) (((p2.toUInt32 >>> ((8 : Int32) &&& 31).toUInt32).toInt32) &&& (255 : Int32)))).length)), (.int (8 : Int32))]) i33_266 (c_same l hw hEL hcs hcz hfm hfr hst hKn hus hss X42.old m_19 tm_19 km_19 (((((([] : List Int32) ++ (own_mk rr0 (p0 &&& (255 : Int32)) (((p0.toUInt32 >>> ((8 : Int32) &&& 31).toUInt32).toInt32) &&& (255 : Int32)))) ++ [(58 : Int32), (32 : Int32)]) ++ (own_mk rr1 (p1 &&& (255 : Int32)) (((p1.toUInt32 >>> ((8 : Int32) &&& 31).toUInt32).toInt32) &&& (255 : Int32)))) ++ [(58 : Int32), (32 : Int32)]) ++ (own_mk rr2 (p2 &&& (255 : Int32)) (((p2.toUInt32 >>> ((8 : Int32) &&& 31).toUInt32).toInt32) &&& (255 : Int32)))) a24 c24 8 S33 q32_1 hCS (Nat.le_of_ble_eq_true rfl)) (hw _ wd_232) (hw _ wd_233) (hw _ wd_5) (hw _ wd_234) (by decide) sf_nil pd25 rfl rfl rfl (W := 0) rfl (by decide) (by decide) (k' := 30) rfl (n' := 2870) rfl (by decide) (by decide) fun vm43 T43 h43 v43 X43 r43 Q43 => ?_
  obtain ⟨rfl, rfl⟩ := Q43
  show Go _ _ _ _ _ _ _ T43 269 #[.val (.int p0), .val (.int p1), .val (.int p2), .val (.ref a1), .val (.ref x_19), .val (.ref m_19), .val (.ref a24), .val (.int (Int32.ofNat (((((([] : List Int32) ++ (own_mk rr0 (p0 &&& (255 : Int32)) (((p0.toUInt32 >>> ((8 : Int32) &&& 31).toUInt32).toInt32) &&& (255 : Int32)))) ++ [(58 : Int32), (32 : Int32)]) ++ (own_mk rr1 (p1 &&& (255 : Int32)) (((p1.toUInt32 >>> ((8 : Int32) &&& 31).toUInt32).toInt32) &&& (255 : Int32)))) ++ [(58 : Int32), (32 : Int32)]) ++ (own_mk rr2 (p2 &&& (255 : Int32)) (((p2.toUInt32 >>> ((8 : Int32) &&& 31).toUInt32).toInt32) &&& (255 : Int32)))).length))] [(.int (1 : Int32))]
  refine X43.ifN i33_269 (by decide) ?_
  refine X43.aload i33_272 rfl rfl ?_
  refine X43.aload i33_274 rfl rfl ?_
  refine X43.iload i33_276 rfl ?_
  refine X43.bipush i33_278 (z := (9 : Int32)) rfl ?_
  refine X43.callS hl (argsL := [(.ref m_19), (.ref a24), (.int (Int32.ofNat (((((([] : List Int32) ++ (own_mk rr0 (p0 &&& (255 : Int32)) (((p0.toUInt32 >>> ((8 : Int32) &&& 31).toUInt32).toInt32) &&& (255 : Int32)))) ++ [(58 : Int32), (32 : Int32)]) ++ (own_mk rr1 (p1 &&& (255 : Int32)) (((p1.toUInt32 >>> ((8 : Int32) &&& 31).toUInt32).toInt32) &&& (255 : Int32)))) ++ [(58 : Int32), (32 : Int32)]) ++ (own_mk rr2 (p2 &&& (255 : Int32)) (((p2.toUInt32 >>> ((8 : Int32) &&& 31).toUInt32).toInt32) &&& (255 : Int32)))).length)), (.int (9 : Int32))]) i33_280 (c_same l hw hEL hcs hcz hfm hfr hst hKn hus hss X43.old m_19 tm_19 km_19 (((((([] : List Int32) ++ (own_mk rr0 (p0 &&& (255 : Int32)) (((p0.toUInt32 >>> ((8 : Int32) &&& 31).toUInt32).toInt32) &&& (255 : Int32)))) ++ [(58 : Int32), (32 : Int32)]) ++ (own_mk rr1 (p1 &&& (255 : Int32)) (((p1.toUInt32 >>> ((8 : Int32) &&& 31).toUInt32).toInt32) &&& (255 : Int32)))) ++ [(58 : Int32), (32 : Int32)]) ++ (own_mk rr2 (p2 &&& (255 : Int32)) (((p2.toUInt32 >>> ((8 : Int32) &&& 31).toUInt32).toInt32) &&& (255 : Int32)))) a24 c24 9 S33 q32_1 hCS (Nat.le_of_ble_eq_true rfl)) (hw _ wd_232) (hw _ wd_233) (hw _ wd_5) (hw _ wd_234) (by decide) sf_nil pd25 rfl rfl rfl (W := 0) rfl (by decide) (by decide) (k' := 30) rfl (n' := 2870) rfl (by decide) (by decide) fun vm44 T44 h44 v44 X44 r44 Q44 => ?_
  obtain ⟨rfl, rfl⟩ := Q44
  show Go _ _ _ _ _ _ _ T44 283 #[.val (.int p0), .val (.int p1), .val (.int p2), .val (.ref a1), .val (.ref x_19), .val (.ref m_19), .val (.ref a24), .val (.int (Int32.ofNat (((((([] : List Int32) ++ (own_mk rr0 (p0 &&& (255 : Int32)) (((p0.toUInt32 >>> ((8 : Int32) &&& 31).toUInt32).toInt32) &&& (255 : Int32)))) ++ [(58 : Int32), (32 : Int32)]) ++ (own_mk rr1 (p1 &&& (255 : Int32)) (((p1.toUInt32 >>> ((8 : Int32) &&& 31).toUInt32).toInt32) &&& (255 : Int32)))) ++ [(58 : Int32), (32 : Int32)]) ++ (own_mk rr2 (p2 &&& (255 : Int32)) (((p2.toUInt32 >>> ((8 : Int32) &&& 31).toUInt32).toInt32) &&& (255 : Int32)))).length))] [(.int (1 : Int32))]
  refine X44.ifN i33_283 (by decide) ?_
  refine X44.iconst i33_286 (z := (1 : Int32)) rfl ?_
  refine X44.goto i33_287 j287_4 ?_
  exact X44.ireturn i33_291 (t := .boolean) rfl (by decide) rfl (by decide) (by decide) (fun sf hsf => rfl)
set_option maxRecDepth 65536 in
set_option maxHeartbeats 40000000 in
theorem comes_1 {Post : Tables → Env → Array Value → State → Outcome → State → Prop} (hpost : ∀ tb e args s v u, (limb_1_1.after args s (.returned v) u = true ∧ limb_1_2.after args s (.returned v) u = true ∧ True) → ReturnedEndW s (.returned v) u (Jvm.fieldLocs frame_1_writes args s ++ Jvm.arrayLocs frame_1_arrays args s ++ Jvm.staticLocs frame_1_statics s) 48 7808 → Post tb e args s (.returned v) u) :
    ArmFor flags0 classFile x code maxLocals ret World_1 tables_1 room_1 Calls_1 rest_1 Pre_1 Post := by
  intro l hfl _ _ p e ha hc hk s m args below hf hA hF happ hP
  obtain ⟨hcalls, hrest, hpre⟩ := hP
  obtain ⟨-, -, -, hnamed, -, -, -, hat⟩ := (Spec.applies_iff hf).mp happ
  obtain ⟨hg, hn⟩ := and_e (Cond.before_iff.mp (show (Jvm.Cond.and given_1 narrow_1).before args s = true from hpre))
  obtain ⟨hcnt, hg⟩ := and_e hg
  obtain ⟨ha0, hg⟩ := and_e hg
  obtain ⟨ha1, hg⟩ := and_e hg
  obtain ⟨w0, w1, w2, rfl⟩ : ∃ w0 w1 w2 : Value, args = #[w0, w1, w2] := by
    have hs : args.size = 3 := by simpa [Cond.value, given_1] using hcnt
    obtain ⟨L⟩ := args
    match L, hs with
    | [w0, w1, w2], _ => exact ⟨w0, w1, w2, rfl⟩
  have hw := fun d (hd : d ∈ tables_1) => atoms_spec (ws := Jvm.Cond.code x code maxLocals ret :: tables_1) hat d (List.mem_cons_of_mem _ hd)
  obtain ⟨hsets, hown0⟩ := atoms_of _ (rest_1_c_eq ▸ (show rest_1_c.before _ s = true from hrest))
  have hfit : Fit s := fun {y c} hc i hi => by
    obtain ⟨ha, rfl⟩ := Array.getElem?_eq_some_iff.mp hc
    have q := List.all_eq_true.mp ((Array.all_eq_true_iff_forall_mem.mp hF) _ (Array.getElem_mem ha)) i (List.mem_range.mpr hi)
    simpa [Array.getElem?_eq_getElem hi] using q
  obtain ⟨p0, e0⟩ := is_v ha0
  obtain rfl : w0 = (.int p0) := Option.some.inj e0
  obtain ⟨p1, e1⟩ := is_v ha1
  obtain rfl : w1 = (.int p1) := Option.some.inj e1
  obtain ⟨p2, e2⟩ := is_v hg
  obtain rfl : w2 = (.int p2) := Option.some.inj e2
  have n5 := not_v (Cond.before_iff.mp (hsets _ (List.mem_of_getElem? (i := 2) rfl)))
  obtain ⟨zc, ec⟩ := is_v (Cond.before_iff.mp (hsets _ (List.mem_of_getElem? (i := 1) rfl)))
  have hcs : Sta s s.heap "java/lang/String" "COMPACT_STRINGS" "Z" (.int zc) := Sta.start ec (Or.inl (hsets _ (List.mem_of_getElem? (i := 0) rfl)))
  have hcz : ¬ (zc = (0 : Int32)) := gotF (Cond.eq_ints ec (Term.int_eval (0))) n5
  obtain ⟨fm, efm, hfr⟩ := isR_v (Cond.before_iff.mp (hsets _ (List.mem_of_getElem? (i := 8) rfl)))
  have hfm : Sta s s.heap "jdk/internal/util/Preconditions" "SIOOBE_FORMATTER" "Ljava/util/function/BiFunction;" fm := Sta.start efm (Or.inl (hsets _ (List.mem_of_getElem? (i := 7) rfl)))
  have hst : l.stackTraces = true := by unfold Launch.stackTraces; rw [hfl]; decide
  have hKn := MethodsKnown_of_tablesKnown hcalls.2.1
  obtain ⟨us, eus⟩ := own_arrRef (hsets _ (List.mem_of_getElem? (i := 17) rfl))
  have hus : Sta s s.heap "java/lang/Throwable" "UNASSIGNED_STACK" "[Ljava/lang/StackTraceElement;" (.ref us) := Sta.start eus (Or.inl (hsets _ (List.mem_of_getElem? (i := 15) rfl)))
  obtain ⟨ss, ess⟩ := exa_v (Cond.before_iff.mp (hsets _ (List.mem_of_getElem? (i := 22) rfl)))
  have hss : Sta s s.heap "java/lang/Throwable" "SUPPRESSED_SENTINEL" "Ljava/util/List;" (.ref ss) := Sta.start ess (Or.inl (hsets _ (List.mem_of_getElem? (i := 20) rfl)))
  have hEL : EW s (_ : Array Value) own_EL := (EW.cons (hw _ wd_117) lt1_a (EW.cons (hw _ wd_24) lt0_a EW.nil))
  have hCH : CHv s own_EL s.vm s.heap := CHv.start hEL hcalls.2.2.1 (Cond.before_iff.mpr (not_i (nay (Cond.eq_ints ec (Term.int_eval (0))) hcz)) : Jvm.Lit.compactW.before _ s = true) (hw _ wd_25) (hw _ wd_11)
  obtain ⟨n, o, h1, h2, h3, _, L, rfl, ⟨rfl, N, -⟩, -, hq⟩ := own_law l hw hEL hcs hcz hfm hfr hst hKn hus hss p0 p1 p2 p e ha hc hk s m _ below hf ((Spec.applies_iff_loose hf).mp happ).1 ⟨rfl, State.Warmed39.refl s, rfl, hCH, fun _ z => nomatch z⟩ (FramesKnown_of_framesKnown hcalls.1 hf)
  refine ⟨n, _, h1, h2, h3, hpost _ _ _ _ _ _ ⟨Cond.after_iff.mpr rfl, Cond.after_iff.mpr (eq_i res_at (Term.int_eval (1)) rfl), trivial⟩ ⟨hq.1.1, hq.1.2.1, hq.1.2.2.1, (hq.1.2.2.2.sift fun y hy => Or.inr (N y hy)).mono (by decide) (by decide)⟩⟩
theorem main_1_1 : Claimed_1_1 := comes_1 fun _ _ _ _ _ _ h hF => ⟨h.1, hF⟩
theorem main_1_2 : Claimed_1_2 := comes_1 fun _ _ _ _ _ _ h hF => ⟨h.2.1, hF⟩
end Jvm.Pilot.@@N@@
namespace Jvm.Pilot.@@N@@
open Jvm Jvm.ClassFile Sem Op Lib Jvm.Free Jvm.Stand Jvm.Pilot.@@N@@.Jvm.D
/-! MADE BY PROGRAM (witnessworld.py) out of the Statement's table words and the real class files: 43 classes; the members and pool entries that the words name. The judged class is class 1, her method 5. -/
namespace start1
open Jvm.ClassFile
def u (s : String) : CpInfo := .utf8 (stringToUtf16 s)
/-- a pool by its gaps: so many unusable entries, then the entry; so many at the end -/
def gap : Nat → List CpInfo → List CpInfo
  | 0, r => r
  | n + 1, r => .unusable :: gap n r
def poolList (es : List (Nat × CpInfo)) (last : Nat) : List CpInfo := es.foldr (fun e r => gap e.1 (e.2 :: r)) (gap last [])
def pool (es : List (Nat × CpInfo)) (last : Nat) : Array CpInfo := ⟨poolList es last⟩
def fileOf (pool : Array CpInfo) (this : Nat) (attrs : Array Attribute := #[]) (ms : Array MethodInfo := #[]) (fl : Nat := 33) (sup : Nat := 0) (ifs : Array Nat := #[]) (fds : Array FieldInfo := #[]) : ClassFile where
  minorVersion := 0
  majorVersion := 65
  constantPool := pool
  accessFlags := fl
  thisClass := this
  superClass := sup
  interfaces := ifs
  fields := fds
  methods := ms
  attributes := attrs
def plain (name : String) (sup : Option ClassId) : Class where
  name := name
  kind := .ordinary
  loader := none
  accessFlags := 33
  super := sup
  interfaces := #[]
  cf := none
  fields := #[]
  methods := #[]
  instanceTypes := #[]
  staticTypes := #[]
  resolved := #[]
  callSites := []
  init := .initialized
  statics := none
  mirror := none

def pool0 : Array CpInfo := pool [(5, u "<init>"), (0, u "()V"), (1, .class_ 10), (1, u "java/lang/Object")] 113

def k0c0 : Code := { maxStack := 0, maxLocals := 1, code := object_method_1_code, exceptionTable := #[], attributes := #[] }
def k0m0 : Method := { name := "<init>", desc := "()V", sig := { parameters := [], returnType := none }, accessFlags := 1, code := some k0c0 }
/-- java/lang/Object -/
def k0 : Class := { plain "java/lang/Object" none with
  accessFlags := 33
  interfaces := #[]
  cf := some (fileOf pool0 8 #[] #[{ accessFlags := 1, nameIndex := 5, descriptorIndex := 6, attributes := #[] }] 33 0 #[] #[])
  fields := #[]
  methods := #[k0m0]
  instanceTypes := #[]
  staticTypes := #[]
  resolved := Array.replicate 124 none
  statics := none }

def pool1 : Array CpInfo := pool [(2, .class_ 4), (1, u "java/lang/Object"), (0, u "<init>"), (0, u "()V"), (0, .methodref 8 9), (0, .class_ 10), (0, .nameAndType 11 12), (0, u "com/example/yusen/yusen/figures/TermFileFieldProblemPinLaw"), (0, u "len"), (0, u "(I)I"), (0, .class_ 14), (0, u "java/lang/String"), (0, .methodref 13 16), (0, .nameAndType 5 17), (0, u "([C)V"), (0, .methodref 13 19), (0, .nameAndType 20 21), (0, u "charAt"), (0, u "(I)C"), (0, .class_ 23), (0, u "com/example/yusen/yusen/figures/TermFileField"), (0, .methodref 8 25), (0, .nameAndType 26 27), (0, u "str"), (0, u "(I)Ljava/lang/String;"), (0, .methodref 22 29), (0, .nameAndType 5 30), (0, u "(Ljava/lang/String;Ljava/lang/String;)V"), (0, .methodref 22 32), (0, .nameAndType 33 34), (0, u "problem"), (0, u "(Ljava/lang/String;)Lcom/example/yusen/yusen/figures/TermFileException;"), (0, .methodref 36 37), (0, .class_ 38), (0, .nameAndType 39 40), (0, u "com/example/yusen/yusen/figures/TermFileException"), (0, u "getCause"), (0, u "()Ljava/lang/Throwable;"), (0, .methodref 36 42), (0, .nameAndType 43 44), (0, u "getMessage"), (0, u "()Ljava/lang/String;"), (0, .methodref 8 46), (0, .nameAndType 47 48), (0, u "put"), (0, u "([CII)I"), (0, .methodref 13 50), (0, .nameAndType 51 52), (0, u "length"), (0, u "()I"), (0, .methodref 8 54), (0, .nameAndType 55 56), (0, u "same"), (0, u "(Ljava/lang/String;[CII)Z"), (3, u "law"), (0, u "(III)Z")] 4

def k1m0 : Method := { name := "<init>", desc := "()V", sig := { parameters := [], returnType := none }, accessFlags := 1, code := none }
def k1c1 : Code := { maxStack := 2, maxLocals := 1, code := method_2_code, exceptionTable := #[], attributes := #[] }
def k1m1 : Method := { name := "len", desc := "(I)I", sig := { parameters := [.int], returnType := some .int }, accessFlags := 10, code := some k1c1 }
def k1c2 : Code := { maxStack := 6, maxLocals := 4, code := method_3_code, exceptionTable := #[], attributes := #[] }
def k1m2 : Method := { name := "str", desc := "(I)Ljava/lang/String;", sig := { parameters := [.int], returnType := some (.object "java/lang/String") }, accessFlags := 10, code := some k1c2 }
def k1c3 : Code := { maxStack := 4, maxLocals := 5, code := method_4_code, exceptionTable := #[], attributes := #[] }
def k1m3 : Method := { name := "put", desc := "([CII)I", sig := { parameters := [(.array .char), .int, .int], returnType := some .int }, accessFlags := 10, code := some k1c3 }
def k1c4 : Code := { maxStack := 3, maxLocals := 4, code := method_5_code, exceptionTable := #[], attributes := #[] }
def k1m4 : Method := { name := "same", desc := "(Ljava/lang/String;[CII)Z", sig := { parameters := [(.object "java/lang/String"), (.array .char), .int, .int], returnType := some .boolean }, accessFlags := 10, code := some k1c4 }
def k1c5 : Code := { maxStack := 4, maxLocals := 8, code := code, exceptionTable := #[], attributes := #[] }
def k1m5 : Method := { name := "law", desc := "(III)Z", sig := { parameters := [.int, .int, .int], returnType := some .boolean }, accessFlags := 9, code := some k1c5 }
/-- com/example/yusen/yusen/figures/TermFileFieldProblemPinLaw -/
def k1 : Class := { plain "com/example/yusen/yusen/figures/TermFileFieldProblemPinLaw" (some 0) with
  accessFlags := 49
  interfaces := #[]
  cf := some (fileOf pool1 8 #[] #[{ accessFlags := 1, nameIndex := 5, descriptorIndex := 6, attributes := #[] }, { accessFlags := 10, nameIndex := 11, descriptorIndex := 12, attributes := #[] }, { accessFlags := 10, nameIndex := 26, descriptorIndex := 27, attributes := #[] }, { accessFlags := 10, nameIndex := 47, descriptorIndex := 48, attributes := #[] }, { accessFlags := 10, nameIndex := 55, descriptorIndex := 56, attributes := #[] }, { accessFlags := 9, nameIndex := 60, descriptorIndex := 61, attributes := #[] }] 49 2 #[] #[])
  fields := #[]
  methods := #[k1m0, k1m1, k1m2, k1m3, k1m4, k1m5]
  instanceTypes := #[]
  staticTypes := #[]
  resolved := Array.replicate 66 none
  statics := none }

def pool2 : Array CpInfo := pool [(1, .methodref 2 3), (0, .class_ 4), (0, .nameAndType 5 6), (0, u "java/lang/Object"), (0, u "<init>"), (0, u "()V"), (0, .fieldref 8 9), (0, .class_ 10), (0, .nameAndType 11 12), (0, u "com/example/yusen/yusen/figures/TermFileField"), (0, u "source"), (0, u "Ljava/lang/String;"), (0, .fieldref 8 14), (0, .nameAndType 15 12), (0, u "path"), (0, .class_ 17), (0, u "com/example/yusen/yusen/figures/TermFileException"), (0, .methodref 16 19), (0, .nameAndType 5 20), (0, u "(Ljava/lang/String;Ljava/lang/String;Ljava/lang/String;)V"), (0, u "(Ljava/lang/String;Ljava/lang/String;)V"), (2, u "problem"), (0, u "(Ljava/lang/String;)Lcom/example/yusen/yusen/figures/TermFileException;")] 2

def k2c0 : Code := { maxStack := 2, maxLocals := 3, code := prog_23_method_1_code, exceptionTable := #[], attributes := #[] }
def k2m0 : Method := { name := "<init>", desc := "(Ljava/lang/String;Ljava/lang/String;)V", sig := { parameters := [(.object "java/lang/String"), (.object "java/lang/String")], returnType := none }, accessFlags := 1, code := some k2c0 }
def k2c1 : Code := { maxStack := 5, maxLocals := 2, code := prog_23_method_2_code, exceptionTable := #[], attributes := #[] }
def k2m1 : Method := { name := "problem", desc := "(Ljava/lang/String;)Lcom/example/yusen/yusen/figures/TermFileException;", sig := { parameters := [(.object "java/lang/String")], returnType := some (.object "com/example/yusen/yusen/figures/TermFileException") }, accessFlags := 1, code := some k2c1 }
/-- com/example/yusen/yusen/figures/TermFileField -/
def k2 : Class := { plain "com/example/yusen/yusen/figures/TermFileField" (some 0) with
  accessFlags := 33
  interfaces := #[]
  cf := some (fileOf pool2 8 #[] #[{ accessFlags := 1, nameIndex := 5, descriptorIndex := 21, attributes := #[] }, { accessFlags := 1, nameIndex := 24, descriptorIndex := 25, attributes := #[] }] 33 2 #[] #[{ accessFlags := 18, nameIndex := 11, descriptorIndex := 12, attributes := #[] }, { accessFlags := 18, nameIndex := 15, descriptorIndex := 12, attributes := #[] }])
  fields := #[{ name := "source", type := (.object "java/lang/String"), accessFlags := 18, slot := 0, constantValue := 0 }, { name := "path", type := (.object "java/lang/String"), accessFlags := 18, slot := 1, constantValue := 0 }]
  methods := #[k2m0, k2m1]
  instanceTypes := #[(.object "java/lang/String"), (.object "java/lang/String")]
  staticTypes := #[]
  resolved := Array.replicate 28 none
  statics := none }

def pool3 : Array CpInfo := pool [(1, .class_ 2), (0, u "java/io/Serializable"), (0, .class_ 4), (0, u "java/lang/Object")] 2

/-- java/io/Serializable -/
def k3 : Class := { plain "java/io/Serializable" (some 0) with
  accessFlags := 1537
  interfaces := #[]
  cf := some (fileOf pool3 1 #[] #[] 1537 3 #[] #[])
  fields := #[]
  methods := #[]
  instanceTypes := #[]
  staticTypes := #[]
  resolved := Array.replicate 7 none
  statics := none }

def pool4 : Array CpInfo := pool [(1, .class_ 2), (0, u "java/lang/Comparable"), (0, .class_ 4), (0, u "java/lang/Object")] 7

/-- java/lang/Comparable -/
def k4 : Class := { plain "java/lang/Comparable" (some 0) with
  accessFlags := 1537
  interfaces := #[]
  cf := some (fileOf pool4 1 #[] #[] 1537 3 #[] #[])
  fields := #[]
  methods := #[]
  instanceTypes := #[]
  staticTypes := #[]
  resolved := Array.replicate 12 none
  statics := none }

def pool5 : Array CpInfo := pool [(2, .class_ 4), (1, u "java/lang/CharSequence"), (42, .class_ 48), (0, u "java/lang/CharSequence$1CodePointIterator"), (10, .class_ 60), (0, u "java/lang/CharSequence$1CharIterator"), (5, .class_ 67), (0, u "java/lang/Object")] 63

/-- java/lang/CharSequence -/
def k5 : Class := { plain "java/lang/CharSequence" (some 0) with
  accessFlags := 1537
  interfaces := #[]
  cf := some (fileOf pool5 2 #[.nestMembers #[47, 59]] #[] 1537 66 #[] #[])
  fields := #[]
  methods := #[]
  instanceTypes := #[]
  staticTypes := #[]
  resolved := Array.replicate 131 none
  statics := none }

def pool6 : Array CpInfo := pool [(1, .class_ 2), (0, u "java/lang/constant/Constable"), (0, .class_ 4), (0, u "java/lang/Object")] 6

/-- java/lang/constant/Constable -/
def k6 : Class := { plain "java/lang/constant/Constable" (some 0) with
  accessFlags := 1537
  interfaces := #[]
  cf := some (fileOf pool6 1 #[] #[] 1537 3 #[] #[])
  fields := #[]
  methods := #[]
  instanceTypes := #[]
  staticTypes := #[]
  resolved := Array.replicate 11 none
  statics := none }

def pool7 : Array CpInfo := pool [(1, .class_ 2), (0, u "java/lang/constant/ConstantDesc"), (0, .class_ 4), (0, u "java/lang/Object")] 32

/-- java/lang/constant/ConstantDesc -/
def k7 : Class := { plain "java/lang/constant/ConstantDesc" (some 0) with
  accessFlags := 1537
  interfaces := #[]
  cf := some (fileOf pool7 1 #[] #[] 1537 3 #[] #[])
  fields := #[]
  methods := #[]
  instanceTypes := #[]
  staticTypes := #[]
  resolved := Array.replicate 37 none
  statics := none }

def pool8 : Array CpInfo := pool [(1, .methodref 2 3), (0, .class_ 4), (0, .nameAndType 5 6), (0, u "java/lang/Object"), (0, u "<init>"), (0, u "()V"), (0, .string 8), (0, u ""), (0, .fieldref 10 11), (0, .class_ 12), (0, .nameAndType 13 14), (0, u "java/lang/String"), (0, u "value"), (0, u "[B"), (0, .fieldref 10 16), (0, .nameAndType 17 18), (0, u "coder"), (0, u "B"), (2, u "hash"), (0, u "I"), (2, u "hashIsZero"), (0, u "Z"), (0, .methodref 10 28), (0, .nameAndType 5 29), (0, u "([CIILjava/lang/Void;)V"), (8, .fieldref 10 39), (0, .nameAndType 40 26), (0, u "COMPACT_STRINGS"), (1, .class_ 44), (1, u "java/lang/StringUTF16"), (0, u "compress"), (1, .methodref 42 48), (0, .nameAndType 49 50), (0, u "coderFromArrayLen"), (0, u "([BI)B"), (3, .methodref 55 56), (0, .class_ 57), (0, .nameAndType 58 59), (0, u "java/util/Arrays"), (0, u "copyOfRange"), (0, u "([BII)[B"), (47, .class_ 109), (1, u "java/lang/StringLatin1"), (32, u "()Z"), (34, .methodref 42 178), (0, .nameAndType 45 179), (0, u "([CII)[B"), (13, .class_ 195), (1, u "java/lang/System"), (16, .methodref 193 213), (0, .nameAndType 214 215), (0, u "arraycopy"), (0, u "(Ljava/lang/Object;ILjava/lang/Object;II)V"), (118, u "()I"), (0, .methodref 10 336), (0, .nameAndType 17 337), (0, u "()B"), (2, u "()[B"), (22, u "([BI)C"), (27, u "(II)V"), (35, u "(I)C"), (61, .methodref 10 490), (0, .nameAndType 5 491), (0, u "(Ljava/lang/AbstractStringBuilder;Ljava/lang/Void;)V"), (0, .methodref 10 493), (0, .nameAndType 494 142), (0, u "isLatin1"), (0, .methodref 107 496), (0, .nameAndType 497 363), (0, u "charAt"), (3, u "checkIndex"), (4, .nameAndType 507 334), (0, u "length"), (24, u "getBytes"), (16, .methodref 550 506), (0, .class_ 551), (0, u "java/lang/AbstractStringBuilder"), (0, .methodref 550 553), (0, .nameAndType 554 340), (0, u "getValue"), (20, .class_ 576), (0, u "java/lang/CharSequence"), (22, u "CASE_INSENSITIVE_ORDER"), (0, u "Ljava/util/Comparator;"), (220, u "([BIB)V"), (188, u "([C)V"), (36, .methodref 550 493), (5, .fieldref 1054 1055), (0, .class_ 1056), (0, .nameAndType 1057 1058), (0, u "jdk/internal/util/Preconditions"), (0, u "SIOOBE_FORMATTER"), (0, u "Ljava/util/function/BiFunction;"), (0, .methodref 1054 1060), (0, .nameAndType 501 1061), (0, u "(IILjava/util/function/BiFunction;)I"), (39, u "serialPersistentFields"), (0, u "[Ljava/io/ObjectStreamField;"), (0, .class_ 1104), (0, u "java/lang/String$CaseInsensitiveComparator"), (1, .class_ 1107), (0, u "java/io/Serializable"), (0, .class_ 1109), (0, u "java/lang/Comparable"), (0, .class_ 1111), (0, u "java/lang/constant/Constable"), (0, .class_ 1113), (0, u "java/lang/constant/ConstantDesc"), (2, u "serialVersionUID"), (0, u "J"), (3, u "REPL"), (0, u "C"), (2, u "LATIN1"), (1, u "UTF16"), (105, u "(Ljava/lang/StringBuilder;)V")] 217

def k8m0 : Method := { name := "<init>", desc := "()V", sig := { parameters := [], returnType := none }, accessFlags := 1, code := none }
def k8c1 : Code := { maxStack := 5, maxLocals := 2, code := jdk_42_method_3_code, exceptionTable := #[], attributes := #[] }
def k8m1 : Method := { name := "<init>", desc := "([C)V", sig := { parameters := [(.array .char)], returnType := none }, accessFlags := 1, code := some k8c1 }
def k8c2 : Code := { maxStack := 3, maxLocals := 2, code := jdk_42_method_53_code, exceptionTable := #[], attributes := #[] }
def k8m2 : Method := { name := "<init>", desc := "(Ljava/lang/StringBuilder;)V", sig := { parameters := [(.object "java/lang/StringBuilder")], returnType := none }, accessFlags := 1, code := some k8c2 }
def k8c3 : Code := { maxStack := 2, maxLocals := 1, code := jdk_42_method_54_code, exceptionTable := #[], attributes := #[] }
def k8m3 : Method := { name := "length", desc := "()I", sig := { parameters := [], returnType := some .int }, accessFlags := 1, code := some k8c3 }
def k8c4 : Code := { maxStack := 2, maxLocals := 2, code := jdk_42_method_56_code, exceptionTable := #[], attributes := #[] }
def k8m4 : Method := { name := "charAt", desc := "(I)C", sig := { parameters := [.int], returnType := some .char }, accessFlags := 1, code := some k8c4 }
def k8c5 : Code := { maxStack := 5, maxLocals := 4, code := jdk_42_method_147_code, exceptionTable := #[], attributes := #[] }
def k8m5 : Method := { name := "getBytes", desc := "([BIB)V", sig := { parameters := [(.array .byte), .int, .byte], returnType := none }, accessFlags := 0, code := some k8c5 }
def k8c6 : Code := { maxStack := 4, maxLocals := 6, code := jdk_42_method_149_code, exceptionTable := #[], attributes := #[] }
def k8m6 : Method := { name := "<init>", desc := "([CIILjava/lang/Void;)V", sig := { parameters := [(.array .char), .int, .int, (.object "java/lang/Void")], returnType := none }, accessFlags := 2, code := some k8c6 }
def k8c7 : Code := { maxStack := 5, maxLocals := 5, code := jdk_42_method_150_code, exceptionTable := #[], attributes := #[] }
def k8m7 : Method := { name := "<init>", desc := "(Ljava/lang/AbstractStringBuilder;Ljava/lang/Void;)V", sig := { parameters := [(.object "java/lang/AbstractStringBuilder"), (.object "java/lang/Void")], returnType := none }, accessFlags := 0, code := some k8c7 }
def k8c8 : Code := { maxStack := 1, maxLocals := 1, code := jdk_42_method_152_code, exceptionTable := #[], attributes := #[] }
def k8m8 : Method := { name := "coder", desc := "()B", sig := { parameters := [], returnType := some .byte }, accessFlags := 0, code := some k8c8 }
def k8c9 : Code := { maxStack := 1, maxLocals := 1, code := jdk_42_method_154_code, exceptionTable := #[], attributes := #[] }
def k8m9 : Method := { name := "isLatin1", desc := "()Z", sig := { parameters := [], returnType := some .boolean }, accessFlags := 0, code := some k8c9 }
def k8c10 : Code := { maxStack := 3, maxLocals := 2, code := jdk_42_method_155_code, exceptionTable := #[], attributes := #[] }
def k8m10 : Method := { name := "checkIndex", desc := "(II)V", sig := { parameters := [.int, .int], returnType := none }, accessFlags := 8, code := some k8c10 }
/-- java/lang/String -/
def k8 : Class := { plain "java/lang/String" (some 0) with
  accessFlags := 49
  interfaces := #[3, 4, 5, 6, 7]
  cf := some (fileOf pool8 10 #[.nestMembers #[1103]] #[{ accessFlags := 1, nameIndex := 5, descriptorIndex := 6, attributes := #[] }, { accessFlags := 1, nameIndex := 5, descriptorIndex := 1010, attributes := #[] }, { accessFlags := 1, nameIndex := 5, descriptorIndex := 1233, attributes := #[] }, { accessFlags := 1, nameIndex := 507, descriptorIndex := 334, attributes := #[] }, { accessFlags := 1, nameIndex := 497, descriptorIndex := 427, attributes := #[] }, { accessFlags := 0, nameIndex := 532, descriptorIndex := 821, attributes := #[] }, { accessFlags := 2, nameIndex := 5, descriptorIndex := 29, attributes := #[] }, { accessFlags := 0, nameIndex := 5, descriptorIndex := 491, attributes := #[] }, { accessFlags := 0, nameIndex := 17, descriptorIndex := 337, attributes := #[] }, { accessFlags := 0, nameIndex := 494, descriptorIndex := 142, attributes := #[] }, { accessFlags := 8, nameIndex := 501, descriptorIndex := 391, attributes := #[] }] 49 2 #[1106, 1108, 575, 1110, 1112] #[{ accessFlags := 18, nameIndex := 13, descriptorIndex := 14, attributes := #[] }, { accessFlags := 18, nameIndex := 17, descriptorIndex := 18, attributes := #[] }, { accessFlags := 2, nameIndex := 21, descriptorIndex := 22, attributes := #[] }, { accessFlags := 2, nameIndex := 25, descriptorIndex := 26, attributes := #[] }, { accessFlags := 26, nameIndex := 1116, descriptorIndex := 1117, attributes := #[] }, { accessFlags := 24, nameIndex := 40, descriptorIndex := 26, attributes := #[] }, { accessFlags := 26, nameIndex := 1101, descriptorIndex := 1102, attributes := #[] }, { accessFlags := 26, nameIndex := 1121, descriptorIndex := 1122, attributes := #[] }, { accessFlags := 25, nameIndex := 599, descriptorIndex := 600, attributes := #[] }, { accessFlags := 24, nameIndex := 1125, descriptorIndex := 18, attributes := #[] }, { accessFlags := 24, nameIndex := 1127, descriptorIndex := 18, attributes := #[] }])
  fields := #[{ name := "value", type := (.array .byte), accessFlags := 18, slot := 0, constantValue := 0 }, { name := "coder", type := .byte, accessFlags := 18, slot := 1, constantValue := 0 }, { name := "hash", type := .int, accessFlags := 2, slot := 2, constantValue := 0 }, { name := "hashIsZero", type := .boolean, accessFlags := 2, slot := 3, constantValue := 0 }, { name := "serialVersionUID", type := .long, accessFlags := 26, slot := 0, constantValue := 0 }, { name := "COMPACT_STRINGS", type := .boolean, accessFlags := 24, slot := 1, constantValue := 0 }, { name := "serialPersistentFields", type := (.array (.object "java/io/ObjectStreamField")), accessFlags := 26, slot := 2, constantValue := 0 }, { name := "REPL", type := .char, accessFlags := 26, slot := 3, constantValue := 0 }, { name := "CASE_INSENSITIVE_ORDER", type := (.object "java/util/Comparator"), accessFlags := 25, slot := 4, constantValue := 0 }, { name := "LATIN1", type := .byte, accessFlags := 24, slot := 5, constantValue := 0 }, { name := "UTF16", type := .byte, accessFlags := 24, slot := 6, constantValue := 0 }]
  methods := #[k8m0, k8m1, k8m2, k8m3, k8m4, k8m5, k8m6, k8m7, k8m8, k8m9, k8m10]
  instanceTypes := #[(.array .byte), .byte, .int, .boolean]
  staticTypes := #[.long, .boolean, (.array (.object "java/io/ObjectStreamField")), .char, (.object "java/util/Comparator"), .byte, .byte]
  resolved := Array.replicate 1451 none
  statics := some 0 }

def pool9 : Array CpInfo := pool [(1, .methodref 2 3), (0, .class_ 4), (0, .nameAndType 5 6), (0, u "java/lang/Object"), (0, u "<init>"), (0, u "()V"), (0, .fieldref 8 9), (0, .class_ 10), (0, .nameAndType 11 12), (0, u "java/lang/Throwable"), (0, u "cause"), (0, u "Ljava/lang/Throwable;"), (0, .fieldref 8 14), (0, .nameAndType 15 16), (0, u "UNASSIGNED_STACK"), (0, u "[Ljava/lang/StackTraceElement;"), (0, .fieldref 8 18), (0, .nameAndType 19 16), (0, u "stackTrace"), (0, .fieldref 8 21), (0, .nameAndType 22 23), (0, u "SUPPRESSED_SENTINEL"), (0, u "Ljava/util/List;"), (0, .fieldref 8 25), (0, .nameAndType 26 23), (0, u "suppressedExceptions"), (0, .methodref 8 28), (0, .nameAndType 29 30), (0, u "fillInStackTrace"), (0, u "()Ljava/lang/Throwable;"), (0, .fieldref 8 32), (0, .nameAndType 33 34), (0, u "detailMessage"), (0, u "Ljava/lang/String;"), (3, u "()Ljava/lang/String;"), (2, u "getMessage"), (51, .class_ 94), (0, u "java/lang/Throwable$WrappedPrintStream"), (6, .class_ 103), (1, u "java/lang/Throwable$PrintStreamOrWriter"), (54, u "getCause"), (6, u "$assertionsDisabled"), (0, u "Z"), (26, .class_ 194), (0, u "java/lang/Throwable$WrappedPrintWriter"), (3, .fieldref 8 199), (0, .nameAndType 200 201), (0, u "backtrace"), (0, u "Ljava/lang/Object;"), (0, .methodref 8 203), (0, .nameAndType 29 204), (0, u "(I)Ljava/lang/Throwable;"), (6, u "depth"), (0, u "I"), (10, u "(Ljava/lang/String;)V"), (45, .class_ 271), (1, u "java/lang/Throwable$SentinelHolder"), (32, u "EMPTY_THROWABLE_ARRAY"), (0, u "[Ljava/lang/Throwable;"), (12, .class_ 319), (0, u "java/io/Serializable"), (0, u "serialVersionUID"), (0, u "J"), (5, u "NULL_CAUSE_MESSAGE"), (0, u "SELF_SUPPRESSION_MESSAGE"), (0, u "CAUSE_CAPTION"), (0, u "SUPPRESSED_CAPTION")] 73

def k9c0 : Code := { maxStack := 2, maxLocals := 1, code := jdk_78_method_1_code, exceptionTable := #[], attributes := #[] }
def k9m0 : Method := { name := "<init>", desc := "()V", sig := { parameters := [], returnType := none }, accessFlags := 1, code := some k9c0 }
def k9c1 : Code := { maxStack := 2, maxLocals := 2, code := jdk_78_method_2_code, exceptionTable := #[], attributes := #[] }
def k9m1 : Method := { name := "<init>", desc := "(Ljava/lang/String;)V", sig := { parameters := [(.object "java/lang/String")], returnType := none }, accessFlags := 1, code := some k9c1 }
def k9c2 : Code := { maxStack := 1, maxLocals := 1, code := jdk_78_method_6_code, exceptionTable := #[], attributes := #[] }
def k9m2 : Method := { name := "getMessage", desc := "()Ljava/lang/String;", sig := { parameters := [], returnType := some (.object "java/lang/String") }, accessFlags := 1, code := some k9c2 }
def k9c3 : Code := { maxStack := 2, maxLocals := 1, code := ⟨#[0x2a, 0xb4, 0x00, 0x07, 0x2a, 0xa6, 0x00, 0x07, 0x01, 0xa7, 0x00, 0x07, 0x2a, 0xb4, 0x00, 0x07, 0xb0]⟩, exceptionTable := #[], attributes := #[] }
def k9m3 : Method := { name := "getCause", desc := "()Ljava/lang/Throwable;", sig := { parameters := [], returnType := some (.object "java/lang/Throwable") }, accessFlags := 33, code := some k9c3 }
def k9c4 : Code := { maxStack := 2, maxLocals := 1, code := ⟨#[0x2a, 0xb4, 0x00, 0x11, 0xc7, 0x00, 0x0a, 0x2a, 0xb4, 0x00, 0xc6, 0xc6, 0x00, 0x10, 0x2a, 0x03, 0xb6, 0x00, 0xca, 0x57, 0x2a, 0xb2, 0x00, 0x0d, 0xb5, 0x00, 0x11, 0x2a, 0xb0]⟩, exceptionTable := #[], attributes := #[] }
def k9m4 : Method := { name := "fillInStackTrace", desc := "()Ljava/lang/Throwable;", sig := { parameters := [], returnType := some (.object "java/lang/Throwable") }, accessFlags := 33, code := some k9c4 }
def k9m5 : Method := { name := "fillInStackTrace", desc := "(I)Ljava/lang/Throwable;", sig := { parameters := [.int], returnType := some (.object "java/lang/Throwable") }, accessFlags := 258, code := none }
/-- java/lang/Throwable -/
def k9 : Class := { plain "java/lang/Throwable" (some 0) with
  accessFlags := 33
  interfaces := #[3]
  cf := some (fileOf pool9 8 #[.nestMembers #[193, 93, 101, 269]] #[{ accessFlags := 1, nameIndex := 5, descriptorIndex := 6, attributes := #[] }, { accessFlags := 1, nameIndex := 5, descriptorIndex := 223, attributes := #[] }, { accessFlags := 1, nameIndex := 41, descriptorIndex := 38, attributes := #[] }, { accessFlags := 33, nameIndex := 158, descriptorIndex := 30, attributes := #[] }, { accessFlags := 33, nameIndex := 29, descriptorIndex := 30, attributes := #[] }, { accessFlags := 258, nameIndex := 29, descriptorIndex := 204, attributes := #[] }] 33 2 #[318] #[{ accessFlags := 26, nameIndex := 320, descriptorIndex := 321, attributes := #[] }, { accessFlags := 130, nameIndex := 200, descriptorIndex := 201, attributes := #[] }, { accessFlags := 2, nameIndex := 33, descriptorIndex := 34, attributes := #[] }, { accessFlags := 26, nameIndex := 15, descriptorIndex := 16, attributes := #[] }, { accessFlags := 2, nameIndex := 11, descriptorIndex := 12, attributes := #[] }, { accessFlags := 2, nameIndex := 19, descriptorIndex := 16, attributes := #[] }, { accessFlags := 130, nameIndex := 211, descriptorIndex := 212, attributes := #[] }, { accessFlags := 26, nameIndex := 22, descriptorIndex := 23, attributes := #[] }, { accessFlags := 2, nameIndex := 26, descriptorIndex := 23, attributes := #[] }, { accessFlags := 26, nameIndex := 327, descriptorIndex := 34, attributes := #[] }, { accessFlags := 26, nameIndex := 328, descriptorIndex := 34, attributes := #[] }, { accessFlags := 26, nameIndex := 329, descriptorIndex := 34, attributes := #[] }, { accessFlags := 26, nameIndex := 330, descriptorIndex := 34, attributes := #[] }, { accessFlags := 26, nameIndex := 304, descriptorIndex := 305, attributes := #[] }, { accessFlags := 4120, nameIndex := 165, descriptorIndex := 166, attributes := #[] }])
  fields := #[{ name := "serialVersionUID", type := .long, accessFlags := 26, slot := 0, constantValue := 0 }, { name := "backtrace", type := (.object "java/lang/Object"), accessFlags := 130, slot := 0, constantValue := 0 }, { name := "detailMessage", type := (.object "java/lang/String"), accessFlags := 2, slot := 1, constantValue := 0 }, { name := "UNASSIGNED_STACK", type := (.array (.object "java/lang/StackTraceElement")), accessFlags := 26, slot := 1, constantValue := 0 }, { name := "cause", type := (.object "java/lang/Throwable"), accessFlags := 2, slot := 2, constantValue := 0 }, { name := "stackTrace", type := (.array (.object "java/lang/StackTraceElement")), accessFlags := 2, slot := 3, constantValue := 0 }, { name := "depth", type := .int, accessFlags := 130, slot := 4, constantValue := 0 }, { name := "SUPPRESSED_SENTINEL", type := (.object "java/util/List"), accessFlags := 26, slot := 2, constantValue := 0 }, { name := "suppressedExceptions", type := (.object "java/util/List"), accessFlags := 2, slot := 5, constantValue := 0 }, { name := "NULL_CAUSE_MESSAGE", type := (.object "java/lang/String"), accessFlags := 26, slot := 3, constantValue := 0 }, { name := "SELF_SUPPRESSION_MESSAGE", type := (.object "java/lang/String"), accessFlags := 26, slot := 4, constantValue := 0 }, { name := "CAUSE_CAPTION", type := (.object "java/lang/String"), accessFlags := 26, slot := 5, constantValue := 0 }, { name := "SUPPRESSED_CAPTION", type := (.object "java/lang/String"), accessFlags := 26, slot := 6, constantValue := 0 }, { name := "EMPTY_THROWABLE_ARRAY", type := (.array (.object "java/lang/Throwable")), accessFlags := 26, slot := 7, constantValue := 0 }, { name := "$assertionsDisabled", type := .boolean, accessFlags := 4120, slot := 8, constantValue := 0 }]
  methods := #[k9m0, k9m1, k9m2, k9m3, k9m4, k9m5]
  instanceTypes := #[(.object "java/lang/Object"), (.object "java/lang/String"), (.object "java/lang/Throwable"), (.array (.object "java/lang/StackTraceElement")), .int, (.object "java/util/List")]
  staticTypes := #[.long, (.array (.object "java/lang/StackTraceElement")), (.object "java/util/List"), (.object "java/lang/String"), (.object "java/lang/String"), (.object "java/lang/String"), (.object "java/lang/String"), (.array (.object "java/lang/Throwable")), .boolean]
  resolved := Array.replicate 404 none
  statics := some 1 }

def pool10 : Array CpInfo := pool [(2, .class_ 4), (1, u "java/lang/Throwable"), (0, u "<init>"), (0, u "()V"), (0, .methodref 2 8), (0, .nameAndType 5 9), (0, u "(Ljava/lang/String;)V"), (9, .class_ 20), (0, u "java/lang/Exception"), (0, u "serialVersionUID"), (0, u "J")] 17

def k10m0 : Method := { name := "<init>", desc := "()V", sig := { parameters := [], returnType := none }, accessFlags := 1, code := none }
def k10c1 : Code := { maxStack := 2, maxLocals := 2, code := jdk_59_method_2_code, exceptionTable := #[], attributes := #[] }
def k10m1 : Method := { name := "<init>", desc := "(Ljava/lang/String;)V", sig := { parameters := [(.object "java/lang/String")], returnType := none }, accessFlags := 1, code := some k10c1 }
/-- java/lang/Exception -/
def k10 : Class := { plain "java/lang/Exception" (some 9) with
  accessFlags := 33
  interfaces := #[]
  cf := some (fileOf pool10 19 #[] #[{ accessFlags := 1, nameIndex := 5, descriptorIndex := 6, attributes := #[] }, { accessFlags := 1, nameIndex := 5, descriptorIndex := 9, attributes := #[] }] 33 2 #[] #[{ accessFlags := 24, nameIndex := 21, descriptorIndex := 22, attributes := #[] }])
  fields := #[{ name := "serialVersionUID", type := .long, accessFlags := 24, slot := 0, constantValue := 0 }]
  methods := #[k10m0, k10m1]
  instanceTypes := #[(.object "java/lang/Object"), (.object "java/lang/String"), (.object "java/lang/Throwable"), (.array (.object "java/lang/StackTraceElement")), .int, (.object "java/util/List")]
  staticTypes := #[.long]
  resolved := Array.replicate 40 none
  statics := none }

def pool11 : Array CpInfo := pool [(1, .methodref 2 3), (0, .class_ 4), (0, .nameAndType 5 6), (0, u "java/lang/Exception"), (0, u "<init>"), (0, u "(Ljava/lang/String;)V"), (12, .class_ 21), (1, u "com/example/yusen/yusen/figures/InputException"), (66, u "serialVersionUID"), (0, u "J"), (3, u "SHOWN_WHOLE"), (0, u "I")] 13

def k11c0 : Code := { maxStack := 2, maxLocals := 2, code := prog_17_method_1_code, exceptionTable := #[], attributes := #[] }
def k11m0 : Method := { name := "<init>", desc := "(Ljava/lang/String;)V", sig := { parameters := [(.object "java/lang/String")], returnType := none }, accessFlags := 1, code := some k11c0 }
/-- com/example/yusen/yusen/figures/InputException -/
def k11 : Class := { plain "com/example/yusen/yusen/figures/InputException" (some 10) with
  accessFlags := 33
  interfaces := #[]
  cf := some (fileOf pool11 19 #[] #[{ accessFlags := 1, nameIndex := 5, descriptorIndex := 6, attributes := #[] }] 33 2 #[] #[{ accessFlags := 26, nameIndex := 88, descriptorIndex := 89, attributes := #[] }, { accessFlags := 26, nameIndex := 93, descriptorIndex := 94, attributes := #[] }])
  fields := #[{ name := "serialVersionUID", type := .long, accessFlags := 26, slot := 0, constantValue := 0 }, { name := "SHOWN_WHOLE", type := .int, accessFlags := 26, slot := 1, constantValue := 0 }]
  methods := #[k11m0]
  instanceTypes := #[(.object "java/lang/Object"), (.object "java/lang/String"), (.object "java/lang/Throwable"), (.array (.object "java/lang/StackTraceElement")), .int, (.object "java/util/List")]
  staticTypes := #[.long, .int]
  resolved := Array.replicate 108 none
  statics := none }

def pool12 : Array CpInfo := pool [(1, .class_ 2), (0, u "java/lang/StringBuilder"), (0, .methodref 1 4), (0, .nameAndType 5 6), (0, u "<init>"), (0, u "()V"), (0, .methodref 1 8), (0, .nameAndType 9 10), (0, u "append"), (0, u "(Ljava/lang/String;)Ljava/lang/StringBuilder;"), (0, .string 12), (0, u ": "), (0, .methodref 1 14), (0, .nameAndType 15 16), (0, u "toString"), (0, u "()Ljava/lang/String;"), (0, .methodref 18 19), (0, .class_ 20), (0, .nameAndType 5 21), (0, u "com/example/yusen/yusen/figures/InputException"), (0, u "(Ljava/lang/String;)V"), (3, .class_ 26), (0, u "com/example/yusen/yusen/figures/TermFileException"), (0, u "serialVersionUID"), (0, u "J"), (3, u "(Ljava/lang/String;Ljava/lang/String;Ljava/lang/String;)V")] 6

def k12c0 : Code := { maxStack := 3, maxLocals := 4, code := prog_22_method_1_code, exceptionTable := #[], attributes := #[] }
def k12m0 : Method := { name := "<init>", desc := "(Ljava/lang/String;Ljava/lang/String;Ljava/lang/String;)V", sig := { parameters := [(.object "java/lang/String"), (.object "java/lang/String"), (.object "java/lang/String")], returnType := none }, accessFlags := 1, code := some k12c0 }
/-- com/example/yusen/yusen/figures/TermFileException -/
def k12 : Class := { plain "com/example/yusen/yusen/figures/TermFileException" (some 11) with
  accessFlags := 33
  interfaces := #[]
  cf := some (fileOf pool12 25 #[] #[{ accessFlags := 1, nameIndex := 5, descriptorIndex := 32, attributes := #[] }] 33 18 #[] #[{ accessFlags := 26, nameIndex := 27, descriptorIndex := 28, attributes := #[] }])
  fields := #[{ name := "serialVersionUID", type := .long, accessFlags := 26, slot := 0, constantValue := 0 }]
  methods := #[k12m0]
  instanceTypes := #[(.object "java/lang/Object"), (.object "java/lang/String"), (.object "java/lang/Throwable"), (.array (.object "java/lang/StackTraceElement")), .int, (.object "java/util/List")]
  staticTypes := #[.long]
  resolved := Array.replicate 39 none
  statics := none }

def pool13 : Array CpInfo := pool [(1, .class_ 2), (0, u "java/lang/Appendable"), (0, .class_ 4), (0, u "java/lang/Object")] 9

/-- java/lang/Appendable -/
def k13 : Class := { plain "java/lang/Appendable" (some 0) with
  accessFlags := 1537
  interfaces := #[]
  cf := some (fileOf pool13 1 #[] #[] 1537 3 #[] #[])
  fields := #[]
  methods := #[]
  instanceTypes := #[]
  staticTypes := #[]
  resolved := Array.replicate 14 none
  statics := none }

def pool14 : Array CpInfo := pool [(1, .class_ 2), (0, u "java/lang/String"), (0, .methodref 4 5), (0, .class_ 6), (0, .nameAndType 7 8), (0, u "java/lang/Object"), (0, u "<init>"), (0, u "()V"), (1, .class_ 12), (1, u "java/lang/AbstractStringBuilder"), (0, u "EMPTYVALUE"), (0, u "[B"), (0, .fieldref 10 16), (0, .nameAndType 17 14), (0, u "value"), (0, .fieldref 1 19), (0, .nameAndType 20 21), (0, u "COMPACT_STRINGS"), (0, u "Z"), (0, .fieldref 10 23), (0, .nameAndType 24 25), (0, u "coder"), (0, u "B"), (6, .methodref 1 33), (0, .nameAndType 34 35), (0, u "length"), (0, u "()I"), (4, .methodref 1 41), (0, .nameAndType 24 42), (0, u "()B"), (2, u "append"), (0, u "(Ljava/lang/String;)Ljava/lang/AbstractStringBuilder;"), (1, .class_ 49), (0, u "java/lang/CharSequence"), (19, u "(Ljava/lang/String;)V"), (5, u "maybeLatin1"), (3, .fieldref 10 80), (0, .nameAndType 81 82), (0, u "count"), (0, u "I"), (2, u "isLatin1"), (0, u "()Z"), (13, .methodref 10 101), (0, .nameAndType 102 103), (0, u "ensureCapacityInternal"), (0, u "(I)V"), (104, .methodref 10 209), (0, .nameAndType 210 211), (0, u "putStringAt"), (0, u "(ILjava/lang/String;)V"), (5, u "inflateIfNeededFor"), (2, .nameAndType 221 222), (0, u "getBytes"), (0, u "([BIB)V"), (174, .methodref 10 398), (0, .nameAndType 217 69), (0, .methodref 1 220), (3, u "()[B"), (40, .class_ 445), (0, u "java/lang/Appendable"), (106, u "getValue")] 56

def k14m0 : Method := { name := "<init>", desc := "()V", sig := { parameters := [], returnType := none }, accessFlags := 0, code := none }
def k14c1 : Code := { maxStack := 2, maxLocals := 2, code := jdk_68_method_2_code, exceptionTable := #[], attributes := #[] }
def k14m1 : Method := { name := "<init>", desc := "(I)V", sig := { parameters := [.int], returnType := none }, accessFlags := 0, code := some k14c1 }
def k14c2 : Code := { maxStack := 1, maxLocals := 1, code := jdk_68_method_6_code, exceptionTable := #[], attributes := #[] }
def k14m2 : Method := { name := "length", desc := "()I", sig := { parameters := [], returnType := some .int }, accessFlags := 1, code := some k14c2 }
def k14c3 : Code := { maxStack := 4, maxLocals := 3, code := jdk_68_method_9_code, exceptionTable := #[], attributes := #[] }
def k14m3 : Method := { name := "ensureCapacityInternal", desc := "(I)V", sig := { parameters := [.int], returnType := none }, accessFlags := 2, code := some k14c3 }
def k14c4 : Code := { maxStack := 3, maxLocals := 3, code := jdk_68_method_22_code, exceptionTable := #[], attributes := #[] }
def k14m4 : Method := { name := "append", desc := "(Ljava/lang/String;)Ljava/lang/AbstractStringBuilder;", sig := { parameters := [(.object "java/lang/String")], returnType := some (.object "java/lang/AbstractStringBuilder") }, accessFlags := 1, code := some k14c4 }
def k14c5 : Code := { maxStack := 1, maxLocals := 1, code := jdk_68_method_64_code, exceptionTable := #[], attributes := #[] }
def k14m5 : Method := { name := "getValue", desc := "()[B", sig := { parameters := [], returnType := some (.array .byte) }, accessFlags := 16, code := some k14c5 }
def k14c6 : Code := { maxStack := 1, maxLocals := 1, code := jdk_68_method_68_code, exceptionTable := #[], attributes := #[] }
def k14m6 : Method := { name := "isLatin1", desc := "()Z", sig := { parameters := [], returnType := some .boolean }, accessFlags := 16, code := some k14c6 }
def k14c7 : Code := { maxStack := 2, maxLocals := 2, code := jdk_68_method_71_code, exceptionTable := #[], attributes := #[] }
def k14m7 : Method := { name := "inflateIfNeededFor", desc := "(Ljava/lang/String;)V", sig := { parameters := [(.object "java/lang/String")], returnType := none }, accessFlags := 2, code := some k14c7 }
def k14c8 : Code := { maxStack := 4, maxLocals := 3, code := jdk_68_method_73_code, exceptionTable := #[], attributes := #[] }
def k14m8 : Method := { name := "putStringAt", desc := "(ILjava/lang/String;)V", sig := { parameters := [.int, (.object "java/lang/String")], returnType := none }, accessFlags := 2, code := some k14c8 }
/-- java/lang/AbstractStringBuilder -/
def k14 : Class := { plain "java/lang/AbstractStringBuilder" (some 0) with
  accessFlags := 1056
  interfaces := #[13, 5]
  cf := some (fileOf pool14 10 #[] #[{ accessFlags := 0, nameIndex := 7, descriptorIndex := 8, attributes := #[] }, { accessFlags := 0, nameIndex := 7, descriptorIndex := 103, attributes := #[] }, { accessFlags := 1, nameIndex := 34, descriptorIndex := 35, attributes := #[] }, { accessFlags := 2, nameIndex := 102, descriptorIndex := 103, attributes := #[] }, { accessFlags := 1, nameIndex := 45, descriptorIndex := 46, attributes := #[] }, { accessFlags := 16, nameIndex := 552, descriptorIndex := 403, attributes := #[] }, { accessFlags := 16, nameIndex := 85, descriptorIndex := 86, attributes := #[] }, { accessFlags := 2, nameIndex := 217, descriptorIndex := 69, attributes := #[] }, { accessFlags := 2, nameIndex := 210, descriptorIndex := 211, attributes := #[] }] 1056 4 #[444, 48] #[{ accessFlags := 0, nameIndex := 17, descriptorIndex := 14, attributes := #[] }, { accessFlags := 0, nameIndex := 24, descriptorIndex := 25, attributes := #[] }, { accessFlags := 0, nameIndex := 75, descriptorIndex := 21, attributes := #[] }, { accessFlags := 0, nameIndex := 81, descriptorIndex := 82, attributes := #[] }, { accessFlags := 26, nameIndex := 13, descriptorIndex := 14, attributes := #[] }])
  fields := #[{ name := "value", type := (.array .byte), accessFlags := 0, slot := 0, constantValue := 0 }, { name := "coder", type := .byte, accessFlags := 0, slot := 1, constantValue := 0 }, { name := "maybeLatin1", type := .boolean, accessFlags := 0, slot := 2, constantValue := 0 }, { name := "count", type := .int, accessFlags := 0, slot := 3, constantValue := 0 }, { name := "EMPTYVALUE", type := (.array .byte), accessFlags := 26, slot := 0, constantValue := 0 }]
  methods := #[k14m0, k14m1, k14m2, k14m3, k14m4, k14m5, k14m6, k14m7, k14m8]
  instanceTypes := #[(.array .byte), .byte, .boolean, .int]
  staticTypes := #[(.array .byte)]
  resolved := Array.replicate 609 none
  statics := none }

def pool15 : Array CpInfo := pool [(1, .methodref 2 3), (0, .class_ 4), (0, .nameAndType 5 6), (0, u "java/lang/AbstractStringBuilder"), (0, u "<init>"), (0, u "(I)V"), (11, .class_ 20), (1, u "java/lang/String"), (3, .class_ 26), (1, u "java/lang/StringBuilder"), (0, u "append"), (0, u "(Ljava/lang/String;)Ljava/lang/StringBuilder;"), (0, .methodref 2 30), (0, .nameAndType 27 31), (0, u "(Ljava/lang/String;)Ljava/lang/AbstractStringBuilder;"), (105, .methodref 18 138), (0, .nameAndType 5 139), (0, u "(Ljava/lang/StringBuilder;)V"), (5, u "()V"), (10, u "()I"), (186, .methodref 2 344), (0, .nameAndType 345 156), (0, u "length"), (3, .class_ 350), (0, u "java/lang/Appendable"), (0, .class_ 352), (0, u "java/io/Serializable"), (0, .class_ 354), (0, u "java/lang/Comparable"), (0, .class_ 356), (0, u "java/lang/CharSequence"), (0, u "serialVersionUID"), (0, u "J"), (40, u "toString"), (0, u "()Ljava/lang/String;")] 21

def k15c0 : Code := { maxStack := 2, maxLocals := 1, code := jdk_67_method_1_code, exceptionTable := #[], attributes := #[] }
def k15m0 : Method := { name := "<init>", desc := "()V", sig := { parameters := [], returnType := none }, accessFlags := 1, code := some k15c0 }
def k15c1 : Code := { maxStack := 2, maxLocals := 2, code := jdk_67_method_7_code, exceptionTable := #[], attributes := #[] }
def k15m1 : Method := { name := "append", desc := "(Ljava/lang/String;)Ljava/lang/StringBuilder;", sig := { parameters := [(.object "java/lang/String")], returnType := some (.object "java/lang/StringBuilder") }, accessFlags := 1, code := some k15c1 }
def k15c2 : Code := { maxStack := 3, maxLocals := 1, code := jdk_67_method_42_code, exceptionTable := #[], attributes := #[] }
def k15m2 : Method := { name := "toString", desc := "()Ljava/lang/String;", sig := { parameters := [], returnType := some (.object "java/lang/String") }, accessFlags := 1, code := some k15c2 }
def k15c3 : Code := { maxStack := 1, maxLocals := 1, code := jdk_67_method_93_code, exceptionTable := #[], attributes := #[] }
def k15m3 : Method := { name := "length", desc := "()I", sig := { parameters := [], returnType := some .int }, accessFlags := 4161, code := some k15c3 }
/-- java/lang/StringBuilder -/
def k15 : Class := { plain "java/lang/StringBuilder" (some 14) with
  accessFlags := 49
  interfaces := #[13, 3, 4, 5]
  cf := some (fileOf pool15 24 #[] #[{ accessFlags := 1, nameIndex := 5, descriptorIndex := 145, attributes := #[] }, { accessFlags := 1, nameIndex := 27, descriptorIndex := 28, attributes := #[] }, { accessFlags := 1, nameIndex := 399, descriptorIndex := 400, attributes := #[] }, { accessFlags := 4161, nameIndex := 345, descriptorIndex := 156, attributes := #[] }] 49 2 #[349, 351, 353, 355] #[{ accessFlags := 24, nameIndex := 357, descriptorIndex := 358, attributes := #[] }])
  fields := #[{ name := "serialVersionUID", type := .long, accessFlags := 24, slot := 0, constantValue := 0 }]
  methods := #[k15m0, k15m1, k15m2, k15m3]
  instanceTypes := #[(.array .byte), .byte, .boolean, .int]
  staticTypes := #[.long]
  resolved := Array.replicate 422 none
  statics := none }

def pool16 : Array CpInfo := pool [(2, .class_ 4), (1, u "java/lang/Object"), (0, u "<init>"), (0, u "()V"), (1, .class_ 10), (1, u "java/lang/System"), (0, u "allowSecurityManager"), (0, u "I"), (16, u "cons"), (0, u "Ljava/io/Console;"), (77, .class_ 110), (1, u "java/lang/System$CallersHolder"), (43, u "initialErrStream"), (0, u "Ljava/io/PrintStream;"), (19, u "security"), (0, u "Ljava/lang/SecurityManager;"), (31, .class_ 209), (0, u "java/lang/System$1"), (7, u "props"), (0, u "Ljava/util/Properties;"), (2, u "lineSeparator"), (0, u "Ljava/lang/String;"), (96, .class_ 321), (1, u "java/lang/System$LoggerFinder"), (5, .class_ 328), (0, u "java/lang/System$Logger"), (67, u "err"), (2, u "out"), (91, u "notSupportedJnuEncoding"), (15, u "in"), (17, u "initialIn"), (0, u "Ljava/io/InputStream;"), (35, u "bootLayer"), (0, u "Ljava/lang/ModuleLayer;"), (99, .class_ 664), (0, u "java/lang/System$2"), (9, u "NEVER"), (2, u "MAYBE"), (49, u "arraycopy"), (0, u "(Ljava/lang/Object;ILjava/lang/Object;II)V"), (72, .class_ 802), (0, u "java/lang/System$Logger$Level")] 31

def k16m0 : Method := { name := "<init>", desc := "()V", sig := { parameters := [], returnType := none }, accessFlags := 2, code := none }
def k16m1 : Method := { name := "arraycopy", desc := "(Ljava/lang/Object;ILjava/lang/Object;II)V", sig := { parameters := [(.object "java/lang/Object"), .int, (.object "java/lang/Object"), .int, .int], returnType := none }, accessFlags := 265, code := none }
/-- java/lang/System -/
def k16 : Class := { plain "java/lang/System" (some 0) with
  accessFlags := 49
  interfaces := #[]
  cf := some (fileOf pool16 8 #[.nestMembers #[319, 327, 801, 108, 663, 208]] #[{ accessFlags := 2, nameIndex := 5, descriptorIndex := 6, attributes := #[] }, { accessFlags := 265, nameIndex := 727, descriptorIndex := 728, attributes := #[] }] 49 2 #[] #[{ accessFlags := 25, nameIndex := 507, descriptorIndex := 526, attributes := #[] }, { accessFlags := 25, nameIndex := 399, descriptorIndex := 155, attributes := #[] }, { accessFlags := 25, nameIndex := 396, descriptorIndex := 155, attributes := #[] }, { accessFlags := 10, nameIndex := 525, descriptorIndex := 526, attributes := #[] }, { accessFlags := 26, nameIndex := 674, descriptorIndex := 12, attributes := #[] }, { accessFlags := 26, nameIndex := 677, descriptorIndex := 12, attributes := #[] }, { accessFlags := 10, nameIndex := 11, descriptorIndex := 12, attributes := #[] }, { accessFlags := 74, nameIndex := 175, descriptorIndex := 176, attributes := #[] }, { accessFlags := 10, nameIndex := 491, descriptorIndex := 222, attributes := #[] }, { accessFlags := 74, nameIndex := 29, descriptorIndex := 30, attributes := #[] }, { accessFlags := 74, nameIndex := 154, descriptorIndex := 155, attributes := #[] }, { accessFlags := 10, nameIndex := 217, descriptorIndex := 218, attributes := #[] }, { accessFlags := 10, nameIndex := 221, descriptorIndex := 222, attributes := #[] }, { accessFlags := 8, nameIndex := 562, descriptorIndex := 563, attributes := #[] }])
  fields := #[{ name := "in", type := (.object "java/io/InputStream"), accessFlags := 25, slot := 0, constantValue := 0 }, { name := "out", type := (.object "java/io/PrintStream"), accessFlags := 25, slot := 1, constantValue := 0 }, { name := "err", type := (.object "java/io/PrintStream"), accessFlags := 25, slot := 2, constantValue := 0 }, { name := "initialIn", type := (.object "java/io/InputStream"), accessFlags := 10, slot := 3, constantValue := 0 }, { name := "NEVER", type := .int, accessFlags := 26, slot := 4, constantValue := 0 }, { name := "MAYBE", type := .int, accessFlags := 26, slot := 5, constantValue := 0 }, { name := "allowSecurityManager", type := .int, accessFlags := 10, slot := 6, constantValue := 0 }, { name := "security", type := (.object "java/lang/SecurityManager"), accessFlags := 74, slot := 7, constantValue := 0 }, { name := "notSupportedJnuEncoding", type := (.object "java/lang/String"), accessFlags := 10, slot := 8, constantValue := 0 }, { name := "cons", type := (.object "java/io/Console"), accessFlags := 74, slot := 9, constantValue := 0 }, { name := "initialErrStream", type := (.object "java/io/PrintStream"), accessFlags := 74, slot := 10, constantValue := 0 }, { name := "props", type := (.object "java/util/Properties"), accessFlags := 10, slot := 11, constantValue := 0 }, { name := "lineSeparator", type := (.object "java/lang/String"), accessFlags := 10, slot := 12, constantValue := 0 }, { name := "bootLayer", type := (.object "java/lang/ModuleLayer"), accessFlags := 8, slot := 13, constantValue := 0 }]
  methods := #[k16m0, k16m1]
  instanceTypes := #[]
  staticTypes := #[(.object "java/io/InputStream"), (.object "java/io/PrintStream"), (.object "java/io/PrintStream"), (.object "java/io/InputStream"), .int, .int, .int, (.object "java/lang/SecurityManager"), (.object "java/lang/String"), (.object "java/io/Console"), (.object "java/io/PrintStream"), (.object "java/util/Properties"), (.object "java/lang/String"), (.object "java/lang/ModuleLayer")]
  resolved := Array.replicate 834 none
  statics := none }

def pool17 : Array CpInfo := pool [(2, .class_ 4), (1, u "java/lang/Object"), (0, u "<init>"), (0, u "()V"), (7, .class_ 16), (1, u "java/util/Arrays"), (57, .class_ 76), (1, u "java/util/Arrays$NaturalOrder"), (36, .class_ 115), (1, u "java/util/Arrays$LegacyMergeSort"), (1, u "Z"), (21, u "copyOfRange"), (10, .methodref 151 152), (0, .class_ 153), (0, .nameAndType 154 155), (0, u "java/lang/System"), (0, u "arraycopy"), (0, u "(Ljava/lang/Object;ILjava/lang/Object;II)V"), (148, .methodref 305 306), (0, .class_ 307), (0, .nameAndType 308 309), (0, u "java/lang/Math"), (0, u "min"), (0, u "(II)I"), (29, .methodref 14 340), (0, .nameAndType 341 342), (0, u "copyOfRangeByte"), (0, u "([BII)[B"), (0, .methodref 14 344), (0, .nameAndType 345 346), (0, u "checkLength"), (0, u "(II)V"), (28, .class_ 376), (0, u "java/util/Arrays$ArrayList"), (68, u "$assertionsDisabled"), (269, u "MIN_ARRAY_SORT_GRAN"), (0, u "I"), (2, u "INSERTIONSORT_THRESHOLD"), (255, .class_ 976), (0, u "java/util/Arrays$ArrayItr")] 52

def k17m0 : Method := { name := "<init>", desc := "()V", sig := { parameters := [], returnType := none }, accessFlags := 2, code := none }
def k17c1 : Code := { maxStack := 4, maxLocals := 2, code := jdk_65_method_131_code, exceptionTable := #[], attributes := #[] }
def k17m1 : Method := { name := "checkLength", desc := "(II)V", sig := { parameters := [.int, .int], returnType := none }, accessFlags := 10, code := some k17c1 }
def k17c2 : Code := { maxStack := 3, maxLocals := 3, code := jdk_65_method_132_code, exceptionTable := #[], attributes := #[] }
def k17m2 : Method := { name := "copyOfRange", desc := "([BII)[B", sig := { parameters := [(.array .byte), .int, .int], returnType := some (.array .byte) }, accessFlags := 9, code := some k17c2 }
def k17c3 : Code := { maxStack := 6, maxLocals := 5, code := jdk_65_method_133_code, exceptionTable := #[], attributes := #[] }
def k17m3 : Method := { name := "copyOfRangeByte", desc := "([BII)[B", sig := { parameters := [(.array .byte), .int, .int], returnType := some (.array .byte) }, accessFlags := 10, code := some k17c3 }
/-- java/util/Arrays -/
def k17 : Class := { plain "java/util/Arrays" (some 0) with
  accessFlags := 49
  interfaces := #[]
  cf := some (fileOf pool17 14 #[.nestMembers #[975, 375, 113, 74]] #[{ accessFlags := 2, nameIndex := 5, descriptorIndex := 6, attributes := #[] }, { accessFlags := 10, nameIndex := 345, descriptorIndex := 346, attributes := #[] }, { accessFlags := 9, nameIndex := 139, descriptorIndex := 342, attributes := #[] }, { accessFlags := 10, nameIndex := 341, descriptorIndex := 342, attributes := #[] }] 49 2 #[] #[{ accessFlags := 26, nameIndex := 715, descriptorIndex := 716, attributes := #[] }, { accessFlags := 26, nameIndex := 719, descriptorIndex := 716, attributes := #[] }, { accessFlags := 4120, nameIndex := 445, descriptorIndex := 117, attributes := #[] }])
  fields := #[{ name := "MIN_ARRAY_SORT_GRAN", type := .int, accessFlags := 26, slot := 0, constantValue := 0 }, { name := "INSERTIONSORT_THRESHOLD", type := .int, accessFlags := 26, slot := 1, constantValue := 0 }, { name := "$assertionsDisabled", type := .boolean, accessFlags := 4120, slot := 2, constantValue := 0 }]
  methods := #[k17m0, k17m1, k17m2, k17m3]
  instanceTypes := #[]
  staticTypes := #[.int, .int, .boolean]
  resolved := Array.replicate 1029 none
  statics := none }

def pool18 : Array CpInfo := pool [(1, .class_ 2), (0, u "java/lang/Math"), (1, .class_ 6), (1, u "java/lang/Object"), (0, u "<init>"), (0, u "()V"), (89, .class_ 100), (1, u "java/lang/Math$RandomNumberGeneratorHolder"), (71, u "negativeZeroFloatBits"), (0, u "J"), (2, u "negativeZeroDoubleBits"), (24, u "min"), (43, u "$assertionsDisabled"), (0, u "Z"), (88, u "(II)I"), (2, u "twoToTheDoubleScaleDown"), (0, u "D"), (4, u "twoToTheDoubleScaleUp"), (9, u "E"), (3, u "PI"), (2, u "TAU"), (2, u "DEGREES_TO_RADIANS"), (0, u "RADIANS_TO_DEGREES")] 94

def k18m0 : Method := { name := "<init>", desc := "()V", sig := { parameters := [], returnType := none }, accessFlags := 2, code := none }
def k18c1 : Code := { maxStack := 2, maxLocals := 2, code := jdk_29_method_69_code, exceptionTable := #[], attributes := #[] }
def k18m1 : Method := { name := "min", desc := "(II)I", sig := { parameters := [.int, .int], returnType := some .int }, accessFlags := 9, code := some k18c1 }
/-- java/lang/Math -/
def k18 : Class := { plain "java/lang/Math" (some 0) with
  accessFlags := 49
  interfaces := #[]
  cf := some (fileOf pool18 1 #[.nestMembers #[98]] #[{ accessFlags := 2, nameIndex := 7, descriptorIndex := 8, attributes := #[] }, { accessFlags := 9, nameIndex := 201, descriptorIndex := 335, attributes := #[] }] 49 4 #[] #[{ accessFlags := 25, nameIndex := 354, descriptorIndex := 339, attributes := #[] }, { accessFlags := 25, nameIndex := 358, descriptorIndex := 339, attributes := #[] }, { accessFlags := 25, nameIndex := 361, descriptorIndex := 339, attributes := #[] }, { accessFlags := 26, nameIndex := 364, descriptorIndex := 339, attributes := #[] }, { accessFlags := 26, nameIndex := 365, descriptorIndex := 339, attributes := #[] }, { accessFlags := 26, nameIndex := 172, descriptorIndex := 173, attributes := #[] }, { accessFlags := 26, nameIndex := 176, descriptorIndex := 173, attributes := #[] }, { accessFlags := 8, nameIndex := 344, descriptorIndex := 339, attributes := #[] }, { accessFlags := 8, nameIndex := 338, descriptorIndex := 339, attributes := #[] }, { accessFlags := 4120, nameIndex := 245, descriptorIndex := 246, attributes := #[] }])
  fields := #[{ name := "E", type := .double, accessFlags := 25, slot := 0, constantValue := 0 }, { name := "PI", type := .double, accessFlags := 25, slot := 1, constantValue := 0 }, { name := "TAU", type := .double, accessFlags := 25, slot := 2, constantValue := 0 }, { name := "DEGREES_TO_RADIANS", type := .double, accessFlags := 26, slot := 3, constantValue := 0 }, { name := "RADIANS_TO_DEGREES", type := .double, accessFlags := 26, slot := 4, constantValue := 0 }, { name := "negativeZeroFloatBits", type := .long, accessFlags := 26, slot := 5, constantValue := 0 }, { name := "negativeZeroDoubleBits", type := .long, accessFlags := 26, slot := 6, constantValue := 0 }, { name := "twoToTheDoubleScaleUp", type := .double, accessFlags := 8, slot := 7, constantValue := 0 }, { name := "twoToTheDoubleScaleDown", type := .double, accessFlags := 8, slot := 8, constantValue := 0 }, { name := "$assertionsDisabled", type := .boolean, accessFlags := 4120, slot := 9, constantValue := 0 }]
  methods := #[k18m0, k18m1]
  instanceTypes := #[]
  staticTypes := #[.double, .double, .double, .double, .double, .long, .long, .double, .double, .boolean]
  resolved := Array.replicate 460 none
  statics := none }

def pool19 : Array CpInfo := pool [(1, .class_ 2), (0, u "java/lang/String"), (1, .class_ 6), (1, u "java/lang/Object"), (0, u "<init>"), (0, u "()V"), (0, .methodref 1 10), (0, .nameAndType 11 12), (0, u "checkIndex"), (0, u "(II)V"), (1, .class_ 16), (1, u "java/lang/StringLatin1"), (36, u "([BI)C"), (67, u "$assertionsDisabled"), (0, u "Z"), (98, .class_ 223), (1, u "java/lang/StringLatin1$LinesSpliterator"), (28, u "charAt"), (137, .class_ 391), (0, u "java/lang/StringLatin1$CharsSpliterator")] 3

def k19m0 : Method := { name := "<init>", desc := "()V", sig := { parameters := [], returnType := none }, accessFlags := 0, code := none }
def k19c1 : Code := { maxStack := 2, maxLocals := 2, code := jdk_43_method_2_code, exceptionTable := #[], attributes := #[] }
def k19m1 : Method := { name := "charAt", desc := "([BI)C", sig := { parameters := [(.array .byte), .int], returnType := some .char }, accessFlags := 9, code := some k19c1 }
/-- java/lang/StringLatin1 -/
def k19 : Class := { plain "java/lang/StringLatin1" (some 0) with
  accessFlags := 48
  interfaces := #[]
  cf := some (fileOf pool19 14 #[.nestMembers #[390, 221]] #[{ accessFlags := 0, nameIndex := 7, descriptorIndex := 8, attributes := #[] }, { accessFlags := 9, nameIndex := 252, descriptorIndex := 53, attributes := #[] }] 48 4 #[] #[{ accessFlags := 4120, nameIndex := 121, descriptorIndex := 122, attributes := #[] }])
  fields := #[{ name := "$assertionsDisabled", type := .boolean, accessFlags := 4120, slot := 0, constantValue := 0 }]
  methods := #[k19m0, k19m1]
  instanceTypes := #[]
  staticTypes := #[.boolean]
  resolved := Array.replicate 395 none
  statics := none }

def pool20 : Array CpInfo := pool [(2, .class_ 4), (1, u "java/lang/Object"), (0, u "<init>"), (0, u "()V"), (17, .class_ 26), (1, u "jdk/internal/util/Preconditions"), (6, u "checkIndex"), (21, .class_ 56), (0, u "jdk/internal/util/Preconditions$4"), (57, .class_ 115), (0, u "jdk/internal/util/Preconditions$1"), (7, u "SIOOBE_FORMATTER"), (0, u "Ljava/util/function/BiFunction;"), (0, .class_ 126), (0, u "jdk/internal/util/Preconditions$2"), (3, u "AIOOBE_FORMATTER"), (0, .class_ 132), (0, u "jdk/internal/util/Preconditions$3"), (3, u "IOOBE_FORMATTER"), (41, u "(IILjava/util/function/BiFunction;)I")] 15

def k20m0 : Method := { name := "<init>", desc := "()V", sig := { parameters := [], returnType := none }, accessFlags := 1, code := none }
def k20c1 : Code := { maxStack := 3, maxLocals := 3, code := jdk_41_method_11_code, exceptionTable := #[], attributes := #[] }
def k20m1 : Method := { name := "checkIndex", desc := "(IILjava/util/function/BiFunction;)I", sig := { parameters := [.int, .int, (.object "java/util/function/BiFunction")], returnType := some .int }, accessFlags := 9, code := some k20c1 }
/-- jdk/internal/util/Preconditions -/
def k20 : Class := { plain "jdk/internal/util/Preconditions" (some 0) with
  accessFlags := 33
  interfaces := #[]
  cf := some (fileOf pool20 24 #[.nestMembers #[55, 131, 125, 114]] #[{ accessFlags := 1, nameIndex := 5, descriptorIndex := 6, attributes := #[] }, { accessFlags := 9, nameIndex := 33, descriptorIndex := 178, attributes := #[] }] 33 2 #[] #[{ accessFlags := 25, nameIndex := 123, descriptorIndex := 124, attributes := #[] }, { accessFlags := 25, nameIndex := 130, descriptorIndex := 124, attributes := #[] }, { accessFlags := 25, nameIndex := 136, descriptorIndex := 124, attributes := #[] }])
  fields := #[{ name := "SIOOBE_FORMATTER", type := (.object "java/util/function/BiFunction"), accessFlags := 25, slot := 0, constantValue := 0 }, { name := "AIOOBE_FORMATTER", type := (.object "java/util/function/BiFunction"), accessFlags := 25, slot := 1, constantValue := 0 }, { name := "IOOBE_FORMATTER", type := (.object "java/util/function/BiFunction"), accessFlags := 25, slot := 2, constantValue := 0 }]
  methods := #[k20m0, k20m1]
  instanceTypes := #[]
  staticTypes := #[(.object "java/util/function/BiFunction"), (.object "java/util/function/BiFunction"), (.object "java/util/function/BiFunction")]
  resolved := Array.replicate 194 none
  statics := some 2 }

def pool21 : Array CpInfo := pool [(6, .class_ 8), (1, u "java/lang/Object"), (0, u "<init>"), (0, u "()V"), (1, .class_ 14), (1, u "java/lang/StringUTF16"), (31, u "$assertionsDisabled"), (0, u "Z"), (13, u "HI_BYTE_SHIFT"), (0, u "I"), (2, u "LO_BYTE_SHIFT"), (49, .methodref 12 116), (0, .nameAndType 117 118), (0, u "compress"), (0, u "([CI[BII)I"), (3, u "([CII)[B"), (138, u "coderFromArrayLen"), (0, u "([BI)B"), (106, .class_ 371), (1, u "java/lang/StringUTF16$LinesSpliterator"), (58, u "MAX_LENGTH"), (196, .class_ 628), (0, u "java/lang/StringUTF16$CodePointsSpliterator"), (0, .class_ 630), (0, u "java/lang/StringUTF16$CharsSpliterator")] 4

def k21m0 : Method := { name := "<init>", desc := "()V", sig := { parameters := [], returnType := none }, accessFlags := 0, code := none }
def k21c1 : Code := { maxStack := 2, maxLocals := 2, code := jdk_52_method_15_code, exceptionTable := #[], attributes := #[] }
def k21m1 : Method := { name := "coderFromArrayLen", desc := "([BI)B", sig := { parameters := [(.array .byte), .int], returnType := some .byte }, accessFlags := 8, code := some k21c1 }
def k21c2 : Code := { maxStack := 5, maxLocals := 6, code := jdk_52_method_16_code, exceptionTable := #[], attributes := #[] }
def k21m2 : Method := { name := "compress", desc := "([CII)[B", sig := { parameters := [(.array .char), .int, .int], returnType := some (.array .byte) }, accessFlags := 9, code := some k21c2 }
def k21c3 : Code := { maxStack := 3, maxLocals := 7, code := jdk_52_method_21_code, exceptionTable := #[], attributes := #[] }
def k21m3 : Method := { name := "compress", desc := "([CI[BII)I", sig := { parameters := [(.array .char), .int, (.array .byte), .int, .int], returnType := some .int }, accessFlags := 9, code := some k21c3 }
/-- java/lang/StringUTF16 -/
def k21 : Class := { plain "java/lang/StringUTF16" (some 0) with
  accessFlags := 48
  interfaces := #[]
  cf := some (fileOf pool21 12 #[.nestMembers #[627, 629, 369]] #[{ accessFlags := 0, nameIndex := 9, descriptorIndex := 10, attributes := #[] }, { accessFlags := 8, nameIndex := 261, descriptorIndex := 262, attributes := #[] }, { accessFlags := 9, nameIndex := 117, descriptorIndex := 122, attributes := #[] }, { accessFlags := 9, nameIndex := 117, descriptorIndex := 118, attributes := #[] }] 48 6 #[] #[{ accessFlags := 26, nameIndex := 61, descriptorIndex := 62, attributes := #[] }, { accessFlags := 26, nameIndex := 65, descriptorIndex := 62, attributes := #[] }, { accessFlags := 24, nameIndex := 430, descriptorIndex := 62, attributes := #[] }, { accessFlags := 4120, nameIndex := 46, descriptorIndex := 47, attributes := #[] }])
  fields := #[{ name := "HI_BYTE_SHIFT", type := .int, accessFlags := 26, slot := 0, constantValue := 0 }, { name := "LO_BYTE_SHIFT", type := .int, accessFlags := 26, slot := 1, constantValue := 0 }, { name := "MAX_LENGTH", type := .int, accessFlags := 24, slot := 2, constantValue := 0 }, { name := "$assertionsDisabled", type := .boolean, accessFlags := 4120, slot := 3, constantValue := 0 }]
  methods := #[k21m0, k21m1, k21m2, k21m3]
  instanceTypes := #[]
  staticTypes := #[.int, .int, .int, .boolean]
  resolved := Array.replicate 635 none
  statics := none }

def pool22 : Array CpInfo := pool [(9, u "<init>"), (6, .class_ 18), (1, u "java/lang/Object"), (0, u "()V"), (1, .class_ 23), (1, u "jdk/internal/util/ArraysSupport"), (0, u "LOG2_ARRAY_LONG_INDEX_SCALE"), (0, u "I"), (2, u "U"), (0, u "Ljdk/internal/misc/Unsafe;"), (8, u "BIG_ENDIAN"), (0, u "Z"), (8, u "LOG2_BYTE_BIT_SIZE"), (4, u "LOG2_ARRAY_INT_INDEX_SCALE"), (54, u "JLA"), (0, u "Ljdk/internal/access/JavaLangAccess;"), (11, u "LOG2_ARRAY_BOOLEAN_INDEX_SCALE"), (9, u "LOG2_ARRAY_BYTE_INDEX_SCALE"), (5, u "LOG2_ARRAY_CHAR_INDEX_SCALE"), (5, u "LOG2_ARRAY_SHORT_INDEX_SCALE"), (18, u "LOG2_ARRAY_FLOAT_INDEX_SCALE"), (24, u "LOG2_ARRAY_DOUBLE_INDEX_SCALE"), (89, u "T_BOOLEAN"), (2, u "T_CHAR"), (1, u "T_FLOAT"), (1, u "T_DOUBLE"), (1, u "T_BYTE"), (1, u "T_SHORT"), (1, u "T_INT"), (1, u "T_LONG"), (1, u "SOFT_MAX_ARRAY_LENGTH")] 83

def k22m0 : Method := { name := "<init>", desc := "()V", sig := { parameters := [], returnType := none }, accessFlags := 2, code := none }
/-- jdk/internal/util/ArraysSupport -/
def k22 : Class := { plain "jdk/internal/util/ArraysSupport" (some 0) with
  accessFlags := 33
  interfaces := #[]
  cf := some (fileOf pool22 21 #[] #[{ accessFlags := 2, nameIndex := 9, descriptorIndex := 19, attributes := #[] }] 33 16 #[] #[{ accessFlags := 24, nameIndex := 28, descriptorIndex := 29, attributes := #[] }, { accessFlags := 26, nameIndex := 38, descriptorIndex := 39, attributes := #[] }, { accessFlags := 25, nameIndex := 121, descriptorIndex := 25, attributes := #[] }, { accessFlags := 25, nameIndex := 131, descriptorIndex := 25, attributes := #[] }, { accessFlags := 25, nameIndex := 137, descriptorIndex := 25, attributes := #[] }, { accessFlags := 25, nameIndex := 143, descriptorIndex := 25, attributes := #[] }, { accessFlags := 25, nameIndex := 53, descriptorIndex := 25, attributes := #[] }, { accessFlags := 25, nameIndex := 24, descriptorIndex := 25, attributes := #[] }, { accessFlags := 25, nameIndex := 162, descriptorIndex := 25, attributes := #[] }, { accessFlags := 25, nameIndex := 187, descriptorIndex := 25, attributes := #[] }, { accessFlags := 26, nameIndex := 48, descriptorIndex := 25, attributes := #[] }, { accessFlags := 25, nameIndex := 277, descriptorIndex := 25, attributes := #[] }, { accessFlags := 25, nameIndex := 280, descriptorIndex := 25, attributes := #[] }, { accessFlags := 25, nameIndex := 282, descriptorIndex := 25, attributes := #[] }, { accessFlags := 25, nameIndex := 284, descriptorIndex := 25, attributes := #[] }, { accessFlags := 25, nameIndex := 286, descriptorIndex := 25, attributes := #[] }, { accessFlags := 25, nameIndex := 288, descriptorIndex := 25, attributes := #[] }, { accessFlags := 25, nameIndex := 290, descriptorIndex := 25, attributes := #[] }, { accessFlags := 25, nameIndex := 292, descriptorIndex := 25, attributes := #[] }, { accessFlags := 26, nameIndex := 108, descriptorIndex := 109, attributes := #[] }, { accessFlags := 25, nameIndex := 294, descriptorIndex := 25, attributes := #[] }])
  fields := #[{ name := "U", type := (.object "jdk/internal/misc/Unsafe"), accessFlags := 24, slot := 0, constantValue := 0 }, { name := "BIG_ENDIAN", type := .boolean, accessFlags := 26, slot := 1, constantValue := 0 }, { name := "LOG2_ARRAY_BOOLEAN_INDEX_SCALE", type := .int, accessFlags := 25, slot := 2, constantValue := 0 }, { name := "LOG2_ARRAY_BYTE_INDEX_SCALE", type := .int, accessFlags := 25, slot := 3, constantValue := 0 }, { name := "LOG2_ARRAY_CHAR_INDEX_SCALE", type := .int, accessFlags := 25, slot := 4, constantValue := 0 }, { name := "LOG2_ARRAY_SHORT_INDEX_SCALE", type := .int, accessFlags := 25, slot := 5, constantValue := 0 }, { name := "LOG2_ARRAY_INT_INDEX_SCALE", type := .int, accessFlags := 25, slot := 6, constantValue := 0 }, { name := "LOG2_ARRAY_LONG_INDEX_SCALE", type := .int, accessFlags := 25, slot := 7, constantValue := 0 }, { name := "LOG2_ARRAY_FLOAT_INDEX_SCALE", type := .int, accessFlags := 25, slot := 8, constantValue := 0 }, { name := "LOG2_ARRAY_DOUBLE_INDEX_SCALE", type := .int, accessFlags := 25, slot := 9, constantValue := 0 }, { name := "LOG2_BYTE_BIT_SIZE", type := .int, accessFlags := 26, slot := 10, constantValue := 0 }, { name := "T_BOOLEAN", type := .int, accessFlags := 25, slot := 11, constantValue := 0 }, { name := "T_CHAR", type := .int, accessFlags := 25, slot := 12, constantValue := 0 }, { name := "T_FLOAT", type := .int, accessFlags := 25, slot := 13, constantValue := 0 }, { name := "T_DOUBLE", type := .int, accessFlags := 25, slot := 14, constantValue := 0 }, { name := "T_BYTE", type := .int, accessFlags := 25, slot := 15, constantValue := 0 }, { name := "T_SHORT", type := .int, accessFlags := 25, slot := 16, constantValue := 0 }, { name := "T_INT", type := .int, accessFlags := 25, slot := 17, constantValue := 0 }, { name := "T_LONG", type := .int, accessFlags := 25, slot := 18, constantValue := 0 }, { name := "JLA", type := (.object "jdk/internal/access/JavaLangAccess"), accessFlags := 26, slot := 19, constantValue := 0 }, { name := "SOFT_MAX_ARRAY_LENGTH", type := .int, accessFlags := 25, slot := 20, constantValue := 0 }]
  methods := #[k22m0]
  instanceTypes := #[]
  staticTypes := #[(.object "jdk/internal/misc/Unsafe"), .boolean, .int, .int, .int, .int, .int, .int, .int, .int, .int, .int, .int, .int, .int, .int, .int, .int, .int, (.object "jdk/internal/access/JavaLangAccess"), .int]
  resolved := Array.replicate 378 none
  statics := none }

def pool23 : Array CpInfo := pool [(2, .class_ 4), (1, u "java/lang/Object"), (0, u "<init>"), (0, u "()V"), (12, .class_ 20), (0, u "java/util/Collections"), (63, u "r"), (0, u "Ljava/util/Random;"), (80, .class_ 167), (0, u "java/util/Collections$UnmodifiableCollection"), (6, .class_ 175), (0, u "java/util/Collections$UnmodifiableSequencedCollection"), (6, .class_ 183), (0, u "java/util/Collections$UnmodifiableSet"), (6, .class_ 191), (0, u "java/util/Collections$UnmodifiableSequencedSet"), (6, .class_ 199), (0, u "java/util/Collections$UnmodifiableSortedSet"), (6, .class_ 207), (0, u "java/util/Collections$UnmodifiableNavigableSet"), (4, .class_ 213), (0, u "java/util/Collections$UnmodifiableList"), (1, .class_ 216), (0, u "java/util/Collections$UnmodifiableRandomAccessList"), (6, .class_ 224), (0, u "java/util/Collections$UnmodifiableMap"), (6, .class_ 232), (0, u "java/util/Collections$UnmodifiableSequencedMap"), (4, .class_ 238), (0, u "java/util/Collections$UnmodifiableSortedMap"), (6, .class_ 246), (0, u "java/util/Collections$UnmodifiableNavigableMap"), (3, .class_ 251), (0, u "java/util/Collections$SynchronizedCollection"), (4, .class_ 257), (0, u "java/util/Collections$SynchronizedSet"), (4, .class_ 263), (0, u "java/util/Collections$SynchronizedSortedSet"), (1, .class_ 266), (0, u "java/util/Collections$SynchronizedNavigableSet"), (1, .class_ 269), (0, u "java/util/Collections$SynchronizedRandomAccessList"), (1, .class_ 272), (0, u "java/util/Collections$SynchronizedList"), (5, .class_ 279), (0, u "java/util/Collections$SynchronizedMap"), (1, .class_ 282), (0, u "java/util/Collections$SynchronizedSortedMap"), (1, .class_ 285), (0, u "java/util/Collections$SynchronizedNavigableMap"), (1, .class_ 288), (0, u "java/util/Collections$CheckedCollection"), (11, .class_ 301), (0, u "java/util/Collections$CheckedQueue"), (3, .class_ 306), (0, u "java/util/Collections$CheckedSet"), (3, .class_ 311), (0, u "java/util/Collections$CheckedSortedSet"), (3, .class_ 316), (0, u "java/util/Collections$CheckedNavigableSet"), (3, .class_ 321), (0, u "java/util/Collections$CheckedRandomAccessList"), (3, .class_ 326), (0, u "java/util/Collections$CheckedList"), (1, .class_ 329), (0, u "java/util/Collections$CheckedMap"), (3, .class_ 334), (0, u "java/util/Collections$CheckedSortedMap"), (3, .class_ 339), (0, u "java/util/Collections$CheckedNavigableMap"), (4, .class_ 346), (1, u "java/util/Collections$EmptyIterator"), (3, .class_ 352), (1, u "java/util/Collections$EmptyListIterator"), (2, .class_ 357), (1, u "java/util/Collections$EmptyEnumeration"), (4, u "EMPTY_SET"), (0, u "Ljava/util/Set;"), (6, u "EMPTY_LIST"), (0, u "Ljava/util/List;"), (2, u "EMPTY_MAP"), (0, u "Ljava/util/Map;"), (4, .class_ 381), (0, u "java/util/Collections$SingletonSet"), (2, .class_ 385), (0, u "java/util/Collections$1"), (1, .class_ 388), (0, u "java/util/Collections$2"), (1, .class_ 391), (0, u "java/util/Collections$SingletonList"), (1, .class_ 394), (0, u "java/util/Collections$SingletonMap"), (22, .class_ 418), (0, u "java/util/Collections$CopiesList"), (4, .class_ 425), (1, u "java/util/Collections$ReverseComparator"), (8, .class_ 435), (0, u "java/util/Collections$ReverseComparator2"), (6, .class_ 443), (0, u "java/util/Collections$3"), (25, .class_ 470), (0, u "java/util/Collections$SetFromMap"), (2, .class_ 474), (0, u "java/util/Collections$SequencedSetFromMap"), (3, .class_ 479), (0, u "java/util/Collections$AsLIFOQueue"), (11, .class_ 492), (0, u "java/util/Collections$EmptySet"), (1, .class_ 495), (0, u "java/util/Collections$EmptyList"), (1, .class_ 498), (0, u "java/util/Collections$EmptyMap"), (1, u "BINARYSEARCH_THRESHOLD"), (0, u "I"), (2, u "REVERSE_THRESHOLD"), (1, u "SHUFFLE_THRESHOLD"), (1, u "FILL_THRESHOLD"), (1, u "ROTATE_THRESHOLD"), (1, u "COPY_THRESHOLD"), (1, u "REPLACEALL_THRESHOLD"), (1, u "INDEXOFSUBLIST_THRESHOLD"), (333, .class_ 851), (0, u "java/util/Collections$CheckedMap$CheckedEntrySet"), (0, .class_ 853), (0, u "java/util/Collections$CheckedMap$CheckedEntrySet$CheckedEntry"), (0, .class_ 855), (0, u "java/util/Collections$CheckedMap$CheckedEntrySet$1"), (0, .class_ 857), (0, u "java/util/Collections$CheckedList$1"), (0, .class_ 859), (0, u "java/util/Collections$CheckedCollection$1"), (0, .class_ 861), (0, u "java/util/Collections$UnmodifiableNavigableMap$EmptyNavigableMap"), (0, .class_ 863), (0, u "java/util/Collections$UnmodifiableMap$UnmodifiableEntrySet"), (0, .class_ 865), (0, u "java/util/Collections$UnmodifiableMap$UnmodifiableEntrySet$UnmodifiableEntry"), (0, .class_ 867), (0, u "java/util/Collections$UnmodifiableMap$UnmodifiableEntrySet$UnmodifiableEntrySetSpliterator"), (0, .class_ 869), (0, u "java/util/Collections$UnmodifiableMap$UnmodifiableEntrySet$1"), (0, .class_ 871), (0, u "java/util/Collections$UnmodifiableList$1"), (0, .class_ 873), (0, u "java/util/Collections$UnmodifiableNavigableSet$EmptyNavigableSet"), (0, .class_ 875), (0, u "java/util/Collections$UnmodifiableCollection$1")] 57

def k23m0 : Method := { name := "<init>", desc := "()V", sig := { parameters := [], returnType := none }, accessFlags := 2, code := none }
/-- java/util/Collections -/
def k23 : Class := { plain "java/util/Collections" (some 0) with
  accessFlags := 33
  interfaces := #[]
  cf := some (fileOf pool23 19 #[.nestMembers #[478, 473, 469, 434, 423, 417, 393, 390, 380, 497, 494, 491, 355, 350, 344, 338, 333, 328, 850, 852, 854, 320, 325, 856, 315, 310, 305, 300, 287, 858, 284, 281, 278, 268, 271, 265, 262, 256, 250, 245, 860, 237, 231, 223, 862, 864, 866, 868, 215, 212, 870, 206, 872, 198, 190, 182, 174, 166, 874, 442, 387, 384]] #[{ accessFlags := 2, nameIndex := 5, descriptorIndex := 6, attributes := #[] }] 33 2 #[] #[{ accessFlags := 26, nameIndex := 500, descriptorIndex := 501, attributes := #[] }, { accessFlags := 26, nameIndex := 504, descriptorIndex := 501, attributes := #[] }, { accessFlags := 26, nameIndex := 506, descriptorIndex := 501, attributes := #[] }, { accessFlags := 26, nameIndex := 508, descriptorIndex := 501, attributes := #[] }, { accessFlags := 26, nameIndex := 510, descriptorIndex := 501, attributes := #[] }, { accessFlags := 26, nameIndex := 512, descriptorIndex := 501, attributes := #[] }, { accessFlags := 26, nameIndex := 514, descriptorIndex := 501, attributes := #[] }, { accessFlags := 26, nameIndex := 516, descriptorIndex := 501, attributes := #[] }, { accessFlags := 10, nameIndex := 84, descriptorIndex := 85, attributes := #[] }, { accessFlags := 25, nameIndex := 362, descriptorIndex := 363, attributes := #[] }, { accessFlags := 25, nameIndex := 370, descriptorIndex := 371, attributes := #[] }, { accessFlags := 25, nameIndex := 374, descriptorIndex := 375, attributes := #[] }])
  fields := #[{ name := "BINARYSEARCH_THRESHOLD", type := .int, accessFlags := 26, slot := 0, constantValue := 0 }, { name := "REVERSE_THRESHOLD", type := .int, accessFlags := 26, slot := 1, constantValue := 0 }, { name := "SHUFFLE_THRESHOLD", type := .int, accessFlags := 26, slot := 2, constantValue := 0 }, { name := "FILL_THRESHOLD", type := .int, accessFlags := 26, slot := 3, constantValue := 0 }, { name := "ROTATE_THRESHOLD", type := .int, accessFlags := 26, slot := 4, constantValue := 0 }, { name := "COPY_THRESHOLD", type := .int, accessFlags := 26, slot := 5, constantValue := 0 }, { name := "REPLACEALL_THRESHOLD", type := .int, accessFlags := 26, slot := 6, constantValue := 0 }, { name := "INDEXOFSUBLIST_THRESHOLD", type := .int, accessFlags := 26, slot := 7, constantValue := 0 }, { name := "r", type := (.object "java/util/Random"), accessFlags := 10, slot := 8, constantValue := 0 }, { name := "EMPTY_SET", type := (.object "java/util/Set"), accessFlags := 25, slot := 9, constantValue := 0 }, { name := "EMPTY_LIST", type := (.object "java/util/List"), accessFlags := 25, slot := 10, constantValue := 0 }, { name := "EMPTY_MAP", type := (.object "java/util/Map"), accessFlags := 25, slot := 11, constantValue := 0 }]
  methods := #[k23m0]
  instanceTypes := #[]
  staticTypes := #[.int, .int, .int, .int, .int, .int, .int, .int, (.object "java/util/Random"), (.object "java/util/Set"), (.object "java/util/List"), (.object "java/util/Map")]
  resolved := Array.replicate 933 none
  statics := some 3 }

def pool24 : Array CpInfo := pool [(8, .class_ 10), (1, u "java/lang/Iterable"), (24, .class_ 36), (0, u "java/lang/Object")] 25

/-- java/lang/Iterable -/
def k24 : Class := { plain "java/lang/Iterable" (some 0) with
  accessFlags := 1537
  interfaces := #[]
  cf := some (fileOf pool24 8 #[] #[] 1537 35 #[] #[])
  fields := #[]
  methods := #[]
  instanceTypes := #[]
  staticTypes := #[]
  resolved := Array.replicate 62 none
  statics := none }

def pool25 : Array CpInfo := pool [(10, .class_ 12), (1, u "java/util/Collection"), (47, .class_ 61), (0, u "java/lang/Object"), (0, .class_ 63), (0, u "java/lang/Iterable")] 51

/-- java/util/Collection -/
def k25 : Class := { plain "java/util/Collection" (some 0) with
  accessFlags := 1537
  interfaces := #[24]
  cf := some (fileOf pool25 10 #[] #[] 1537 60 #[62] #[])
  fields := #[]
  methods := #[]
  instanceTypes := #[]
  staticTypes := #[]
  resolved := Array.replicate 115 none
  statics := none }

def pool26 : Array CpInfo := pool [(2, .class_ 4), (1, u "java/lang/Object"), (0, u "<init>"), (0, u "()V"), (1, .class_ 10), (1, u "java/util/AbstractCollection"), (66, .class_ 78), (0, u "java/util/Collection")] 81

def k26m0 : Method := { name := "<init>", desc := "()V", sig := { parameters := [], returnType := none }, accessFlags := 4, code := none }
/-- java/util/AbstractCollection -/
def k26 : Class := { plain "java/util/AbstractCollection" (some 0) with
  accessFlags := 1057
  interfaces := #[25]
  cf := some (fileOf pool26 8 #[] #[{ accessFlags := 4, nameIndex := 5, descriptorIndex := 6, attributes := #[] }] 1057 2 #[77] #[])
  fields := #[]
  methods := #[k26m0]
  instanceTypes := #[]
  staticTypes := #[]
  resolved := Array.replicate 160 none
  statics := none }

def pool27 : Array CpInfo := pool [(8, .class_ 10), (1, u "java/util/SequencedCollection"), (15, .class_ 27), (0, u "java/lang/Object"), (0, .class_ 29), (0, u "java/util/Collection")] 27

/-- java/util/SequencedCollection -/
def k27 : Class := { plain "java/util/SequencedCollection" (some 0) with
  accessFlags := 1537
  interfaces := #[25]
  cf := some (fileOf pool27 8 #[] #[] 1537 26 #[28] #[])
  fields := #[]
  methods := #[]
  instanceTypes := #[]
  staticTypes := #[]
  resolved := Array.replicate 57 none
  statics := none }

def pool28 : Array CpInfo := pool [(8, .class_ 10), (1, u "java/util/List"), (92, .class_ 104), (0, u "java/lang/Object"), (15, .class_ 121), (0, u "java/util/SequencedCollection")] 129

/-- java/util/List -/
def k28 : Class := { plain "java/util/List" (some 0) with
  accessFlags := 1537
  interfaces := #[27]
  cf := some (fileOf pool28 8 #[] #[] 1537 103 #[120] #[])
  fields := #[]
  methods := #[]
  instanceTypes := #[]
  staticTypes := #[]
  resolved := Array.replicate 251 none
  statics := none }

def pool29 : Array CpInfo := pool [(2, .class_ 4), (1, u "java/util/AbstractCollection"), (0, u "<init>"), (0, u "()V"), (1, .class_ 10), (1, u "java/util/AbstractList"), (0, u "modCount"), (0, u "I"), (64, .class_ 78), (0, u "java/util/AbstractList$Itr"), (3, .class_ 83), (0, u "java/util/AbstractList$ListItr"), (9, .class_ 94), (0, u "java/util/AbstractList$RandomAccessSubList"), (3, .class_ 99), (0, u "java/util/AbstractList$SubList"), (33, .class_ 134), (0, u "java/util/List"), (73, .class_ 209), (0, u "java/util/AbstractList$SubList$1"), (0, .class_ 211), (0, u "java/util/AbstractList$RandomAccessSpliterator")] 6

def k29m0 : Method := { name := "<init>", desc := "()V", sig := { parameters := [], returnType := none }, accessFlags := 4, code := none }
/-- java/util/AbstractList -/
def k29 : Class := { plain "java/util/AbstractList" (some 26) with
  accessFlags := 1057
  interfaces := #[28]
  cf := some (fileOf pool29 8 #[.nestMembers #[93, 98, 208, 210, 82, 77]] #[{ accessFlags := 4, nameIndex := 5, descriptorIndex := 6, attributes := #[] }] 1057 2 #[133] #[{ accessFlags := 132, nameIndex := 11, descriptorIndex := 12, attributes := #[] }])
  fields := #[{ name := "modCount", type := .int, accessFlags := 132, slot := 0, constantValue := 0 }]
  methods := #[k29m0]
  instanceTypes := #[.int]
  staticTypes := #[]
  resolved := Array.replicate 218 none
  statics := none }

def pool30 : Array CpInfo := pool [(1, .class_ 2), (0, u "java/util/RandomAccess"), (0, .class_ 4), (0, u "java/lang/Object")] 2

/-- java/util/RandomAccess -/
def k30 : Class := { plain "java/util/RandomAccess" (some 0) with
  accessFlags := 1537
  interfaces := #[]
  cf := some (fileOf pool30 1 #[] #[] 1537 3 #[] #[])
  fields := #[]
  methods := #[]
  instanceTypes := #[]
  staticTypes := #[]
  resolved := Array.replicate 7 none
  statics := none }

def pool31 : Array CpInfo := pool [(2, .class_ 4), (1, u "java/util/AbstractList"), (0, u "<init>"), (0, u "()V"), (1, .class_ 10), (1, u "java/util/Collections"), (54, .class_ 66), (0, u "java/util/Collections$EmptyList"), (0, .class_ 68), (0, u "java/util/RandomAccess"), (0, .class_ 70), (0, u "java/io/Serializable"), (0, u "serialVersionUID"), (0, u "J")] 77

def k31m0 : Method := { name := "<init>", desc := "()V", sig := { parameters := [], returnType := none }, accessFlags := 2, code := none }
/-- java/util/Collections$EmptyList -/
def k31 : Class := { plain "java/util/Collections$EmptyList" (some 29) with
  accessFlags := 32
  interfaces := #[30, 3]
  cf := some (fileOf pool31 65 #[.nestHost 8] #[{ accessFlags := 2, nameIndex := 5, descriptorIndex := 6, attributes := #[] }] 32 2 #[67, 69] #[{ accessFlags := 26, nameIndex := 71, descriptorIndex := 72, attributes := #[] }])
  fields := #[{ name := "serialVersionUID", type := .long, accessFlags := 26, slot := 0, constantValue := 0 }]
  methods := #[k31m0]
  instanceTypes := #[.int]
  staticTypes := #[.long]
  resolved := Array.replicate 150 none
  statics := none }

def pool32 : Array CpInfo := pool [(2, .class_ 4), (1, u "java/lang/StackTraceElement"), (0, u "<init>"), (2, .class_ 10), (1, u "java/lang/Object"), (0, u "()V"), (2, u "format"), (0, u "B"), (2, u "classLoaderName"), (0, u "Ljava/lang/String;"), (2, u "moduleName"), (2, u "moduleVersion"), (12, u "declaringClass"), (4, u "methodName"), (2, u "fileName"), (2, u "lineNumber"), (0, u "I"), (65, u "declaringClassObject"), (0, u "Ljava/lang/Class;"), (33, .class_ 153), (1, u "java/lang/StackTraceElement$HashedModules"), (17, .class_ 172), (0, u "java/io/Serializable"), (0, u "NATIVE_METHOD"), (1, u "UNKNOWN_SOURCE"), (2, u "BUILTIN_CLASS_LOADER"), (1, u "JDK_NON_UPGRADEABLE_MODULE"), (1, u "serialVersionUID"), (0, u "J")] 51

def k32m0 : Method := { name := "<init>", desc := "()V", sig := { parameters := [], returnType := none }, accessFlags := 2, code := none }
/-- java/lang/StackTraceElement -/
def k32 : Class := { plain "java/lang/StackTraceElement" (some 0) with
  accessFlags := 49
  interfaces := #[3]
  cf := some (fileOf pool32 2 #[.nestMembers #[151]] #[{ accessFlags := 2, nameIndex := 5, descriptorIndex := 11, attributes := #[] }] 49 8 #[171] #[{ accessFlags := 26, nameIndex := 173, descriptorIndex := 19, attributes := #[] }, { accessFlags := 26, nameIndex := 175, descriptorIndex := 19, attributes := #[] }, { accessFlags := 130, nameIndex := 116, descriptorIndex := 117, attributes := #[] }, { accessFlags := 2, nameIndex := 18, descriptorIndex := 19, attributes := #[] }, { accessFlags := 2, nameIndex := 22, descriptorIndex := 19, attributes := #[] }, { accessFlags := 2, nameIndex := 25, descriptorIndex := 19, attributes := #[] }, { accessFlags := 2, nameIndex := 38, descriptorIndex := 19, attributes := #[] }, { accessFlags := 2, nameIndex := 43, descriptorIndex := 19, attributes := #[] }, { accessFlags := 2, nameIndex := 46, descriptorIndex := 19, attributes := #[] }, { accessFlags := 2, nameIndex := 49, descriptorIndex := 50, attributes := #[] }, { accessFlags := 2, nameIndex := 14, descriptorIndex := 15, attributes := #[] }, { accessFlags := 26, nameIndex := 178, descriptorIndex := 15, attributes := #[] }, { accessFlags := 26, nameIndex := 180, descriptorIndex := 15, attributes := #[] }, { accessFlags := 26, nameIndex := 182, descriptorIndex := 183, attributes := #[] }])
  fields := #[{ name := "NATIVE_METHOD", type := (.object "java/lang/String"), accessFlags := 26, slot := 0, constantValue := 0 }, { name := "UNKNOWN_SOURCE", type := (.object "java/lang/String"), accessFlags := 26, slot := 1, constantValue := 0 }, { name := "declaringClassObject", type := (.object "java/lang/Class"), accessFlags := 130, slot := 0, constantValue := 0 }, { name := "classLoaderName", type := (.object "java/lang/String"), accessFlags := 2, slot := 1, constantValue := 0 }, { name := "moduleName", type := (.object "java/lang/String"), accessFlags := 2, slot := 2, constantValue := 0 }, { name := "moduleVersion", type := (.object "java/lang/String"), accessFlags := 2, slot := 3, constantValue := 0 }, { name := "declaringClass", type := (.object "java/lang/String"), accessFlags := 2, slot := 4, constantValue := 0 }, { name := "methodName", type := (.object "java/lang/String"), accessFlags := 2, slot := 5, constantValue := 0 }, { name := "fileName", type := (.object "java/lang/String"), accessFlags := 2, slot := 6, constantValue := 0 }, { name := "lineNumber", type := .int, accessFlags := 2, slot := 7, constantValue := 0 }, { name := "format", type := .byte, accessFlags := 2, slot := 8, constantValue := 0 }, { name := "BUILTIN_CLASS_LOADER", type := .byte, accessFlags := 26, slot := 2, constantValue := 0 }, { name := "JDK_NON_UPGRADEABLE_MODULE", type := .byte, accessFlags := 26, slot := 3, constantValue := 0 }, { name := "serialVersionUID", type := .long, accessFlags := 26, slot := 4, constantValue := 0 }]
  methods := #[k32m0]
  instanceTypes := #[(.object "java/lang/Class"), (.object "java/lang/String"), (.object "java/lang/String"), (.object "java/lang/String"), (.object "java/lang/String"), (.object "java/lang/String"), (.object "java/lang/String"), .int, .byte]
  staticTypes := #[(.object "java/lang/String"), (.object "java/lang/String"), .byte, .byte, .long]
  resolved := Array.replicate 235 none
  statics := none }

def pool33 : Array CpInfo := pool [(1, u "java/lang/Cloneable"), (0, .class_ 1), (0, u "java/lang/Object"), (0, .class_ 3)] 3

/-- java/lang/Cloneable -/
def k33 : Class := { plain "java/lang/Cloneable" (some 0) with
  accessFlags := 1537
  interfaces := #[]
  cf := some (fileOf pool33 2 #[] #[] 1537 4 #[] #[])
  fields := #[]
  methods := #[]
  instanceTypes := #[]
  staticTypes := #[]
  resolved := Array.replicate 8 none
  statics := none }

/-- the primitive byte -/
def k34 : Class := { plain "byte" none with kind := .primitive 'B', accessFlags := 0x411 }
/-- [B -/
def k35 : Class := { plain "[B" (some 0) with kind := .array 34 .byte, interfaces := #[33, 3], accessFlags := 1041 }

/-- the primitive char -/
def k36 : Class := { plain "char" none with kind := .primitive 'C', accessFlags := 0x411 }
/-- [C -/
def k37 : Class := { plain "[C" (some 0) with kind := .array 36 .char, interfaces := #[33, 3], accessFlags := 1041 }

/-- the primitive int -/
def k38 : Class := { plain "int" none with kind := .primitive 'I', accessFlags := 0x411 }
/-- [I -/
def k39 : Class := { plain "[I" (some 0) with kind := .array 38 .int, interfaces := #[33, 3], accessFlags := 1041 }

/-- [Ljava/lang/Object; -/
def k40 : Class := { plain "[Ljava/lang/Object;" (some 0) with kind := .array 0 (.object "java/lang/Object"), interfaces := #[33, 3], accessFlags := 1041 }

/-- [Ljava/lang/StackTraceElement; -/
def k41 : Class := { plain "[Ljava/lang/StackTraceElement;" (some 0) with kind := .array 32 (.object "java/lang/StackTraceElement"), interfaces := #[33, 3], accessFlags := 1041 }

/-- [Ljava/lang/Throwable; -/
def k42 : Class := { plain "[Ljava/lang/Throwable;" (some 0) with kind := .array 9 (.object "java/lang/Throwable"), interfaces := #[33, 3], accessFlags := 1041 }

def heap : Heap := #[{ cls := 8, slots := #[.long 0, .int 1, .null, .int 0, .null, .int 0, .int 0], vm := .statics 8 },
  { cls := 9, slots := #[.long 0, .ref 4, .ref 5, .null, .null, .null, .null, .ref 6, .int 1], vm := .statics 9 },
  { cls := 20, slots := #[.null, .null, .null], vm := .statics 20 },
  { cls := 23, slots := #[.int 0, .int 0, .int 0, .int 0, .int 0, .int 0, .int 0, .int 0, .null, .null, .ref 5, .null], vm := .statics 23 },
  { cls := 41, slots := #[], vm := .none },
  { cls := 31, slots := #[.int 0], vm := .none },
  { cls := 42, slots := #[], vm := .none }]
def classes : Array Class := #[k0, k1, k2, k3, k4, k5, k6, k7, k8, k9, k10, k11, k12, k13, k14, k15, k16, k17, k18, k19, k20, k21, k22, k23, k24, k25, k26, k27, k28, k29, k30, k31, k32, k33, k34, k35, k36, k37, k38, k39, k40, k41, k42]
def interned : List (Array UInt16 × Addr) := []
def slotsUsed : Nat := 32
def theMethod : MethodId := ⟨1, 5⟩
def args0 : Array Value := #[.int 131393, .int 65, .int 65601]
def aboutOver (below : List Frame) : State where
  vm := { classes := classes, interned := interned.toArray }
  heap := heap
  slotsUsed := slotsUsed
  threads := #[{ frames := .invoking theMethod args0 :: below }]
def below0 : List Frame := [.native { method := ⟨0, 0⟩, args := #[] }]
def about1 : State := aboutOver below0
def p0 : Program := .bare "" "" ""
def e0 : Env := launch0.env 0 0 0
theorem w_frames : about1.frames = Frame.invoking theMethod args0 :: below0 := rfl
set_option maxRecDepth 65536 in
theorem w_args : argsFit about1.vm theMethod args0 = true := by decide +kernel
set_option maxRecDepth 65536 in
theorem w_heap : heapFits about1 = true := by decide +kernel
set_option maxRecDepth 65536 in
theorem w_runnable : about1.curStatus? = some .runnable := by decide +kernel
set_option maxRecDepth 65536 in
theorem w_alone : about1.alone = true := by decide +kernel
set_option maxRecDepth 65536 in
theorem w_named : about1.methodNamed? x = some theMethod := by decide +kernel
set_option maxRecDepth 65536 in
theorem w_hears : about1.hears theMethod below0 = true := by decide +kernel
set_option maxRecDepth 65536 in
theorem w_ripe : about1.ripe theMethod args0 below0 = true := by decide +kernel
theorem w_running : about1.status = .running := rfl
set_option maxRecDepth 65536 in
theorem w_room : about1.hasRoom e0.platform room_1 = true :=
  launch0.hasRoom_least _ room_1 (by decide +kernel) (by decide +kernel) (by decide +kernel) (by decide +kernel) (by decide +kernel) (by decide +kernel)
theorem allAtoms_all (ts : List Jvm.Cond) (a : Array Jvm.Value) (st : Jvm.State) : (allAtoms ts).before a st = ts.all (fun c => c.before a st) := by
  induction ts with
  | nil => rfl
  | cons c t ih =>
    show (Jvm.Cond.and c (allAtoms t)).before a st = _
    rw [Jvm.Cond.before_and, ih, List.all_cons]
def words1 : List Jvm.Cond := Jvm.Cond.code x code maxLocals ret :: tables_1
/-- a 'code' word, met by the world's own term for the bytes: nothing is compared byte by byte -/
theorem code_word {y : MethodName} {bytes : ByteArray} {mx : Nat} {rt : Option FieldType} {a : Array Value} {s : State} {m : MethodId} {meth : Method} {c : Code} (h1 : s.methodNamed? y = some m) (h2 : s.vm.method? m = some meth) (h3 : meth.code = some c) (h4 : c.code = bytes)
    (h5 : (c.maxLocals == mx && c.exceptionTable.isEmpty && decide (c.maxStack ≤ mostOperands) && decide (meth.sig.returnType = rt) && !meth.locks && decide (parseMethodDescriptor y.desc = some meth.sig)) = true) : (Jvm.Cond.code y bytes mx rt).before a s = true := by
  simp only [Bool.and_eq_true, beq_iff_eq, Bool.not_eq_true', decide_eq_true_eq] at h5
  obtain ⟨⟨⟨⟨⟨g1, g2⟩, g3⟩, g4⟩, g5⟩, g6⟩ := h5
  simp [Cond.before, Cond.holds, Cond.value, h1, h2, h3, h4, g1, g2, g3, g4, g5, g6]
def isCode : Jvm.Cond → Bool
  | .code _ _ _ _ => true
  | _ => false
theorem all_split {L : List Jvm.Cond} {P : Jvm.Cond → Bool} (h1 : L.all (fun c => isCode c || P c) = true) (h2 : ∀ c ∈ L.filter isCode, P c = true) : L.all P = true := by
  refine List.all_eq_true.mpr fun c hc => ?_
  have h := List.all_eq_true.mp h1 c hc
  rcases Bool.eq_false_or_eq_true (isCode c) with hi | hi
  · exact h2 c (List.mem_filter.mpr ⟨hc, hi⟩)
  · simpa [hi] using h
set_option maxRecDepth 65536 in
theorem w_c0 : (Jvm.Cond.code x code maxLocals ret).before args0 about1 = true := code_word (m := ⟨1, 5⟩) (meth := k1m5) (c := k1c5) (by decide +kernel) rfl rfl rfl (by decide +kernel)
set_option maxRecDepth 65536 in
theorem w_c1 : (Jvm.Cond.code ({ cls := "com/example/yusen/yusen/figures/TermFileFieldProblemPinLaw", name := "str", desc := "(I)Ljava/lang/String;" } : Jvm.MethodName) method_3_code (4 : Nat) (Option.some (Jvm.ClassFile.FieldType.object "java/lang/String"))).before args0 about1 = true := code_word (m := ⟨1, 2⟩) (meth := k1m2) (c := k1c2) (by decide +kernel) rfl rfl rfl (by decide +kernel)
set_option maxRecDepth 65536 in
theorem w_c2 : (Jvm.Cond.code ({ cls := "com/example/yusen/yusen/figures/TermFileFieldProblemPinLaw", name := "len", desc := "(I)I" } : Jvm.MethodName) method_2_code (1 : Nat) (Option.some Jvm.ClassFile.FieldType.int)).before args0 about1 = true := code_word (m := ⟨1, 1⟩) (meth := k1m1) (c := k1c1) (by decide +kernel) rfl rfl rfl (by decide +kernel)
set_option maxRecDepth 65536 in
theorem w_c3 : (Jvm.Cond.code ({ cls := "java/lang/String", name := "<init>", desc := "([C)V" } : Jvm.MethodName) jdk_42_method_3_code (2 : Nat) (Option.none : Option Jvm.ClassFile.FieldType)).before args0 about1 = true := code_word (m := ⟨8, 1⟩) (meth := k8m1) (c := k8c1) (by decide +kernel) rfl rfl rfl (by decide +kernel)
set_option maxRecDepth 65536 in
theorem w_c4 : (Jvm.Cond.code ({ cls := "java/lang/String", name := "<init>", desc := "([CIILjava/lang/Void;)V" } : Jvm.MethodName) jdk_42_method_149_code (6 : Nat) (Option.none : Option Jvm.ClassFile.FieldType)).before args0 about1 = true := code_word (m := ⟨8, 6⟩) (meth := k8m6) (c := k8c6) (by decide +kernel) rfl rfl rfl (by decide +kernel)
set_option maxRecDepth 65536 in
theorem w_c5 : (Jvm.Cond.code ({ cls := "java/lang/Object", name := "<init>", desc := "()V" } : Jvm.MethodName) object_method_1_code (1 : Nat) (Option.none : Option Jvm.ClassFile.FieldType)).before args0 about1 = true := code_word (m := ⟨0, 0⟩) (meth := k0m0) (c := k0c0) (by decide +kernel) rfl rfl rfl (by decide +kernel)
set_option maxRecDepth 65536 in
theorem w_c6 : (Jvm.Cond.code ({ cls := "com/example/yusen/yusen/figures/TermFileField", name := "<init>", desc := "(Ljava/lang/String;Ljava/lang/String;)V" } : Jvm.MethodName) prog_23_method_1_code (3 : Nat) (Option.none : Option Jvm.ClassFile.FieldType)).before args0 about1 = true := code_word (m := ⟨2, 0⟩) (meth := k2m0) (c := k2c0) (by decide +kernel) rfl rfl rfl (by decide +kernel)
set_option maxRecDepth 65536 in
theorem w_c7 : (Jvm.Cond.code ({ cls := "com/example/yusen/yusen/figures/TermFileField", name := "problem", desc := "(Ljava/lang/String;)Lcom/example/yusen/yusen/figures/TermFileException;" } : Jvm.MethodName) prog_23_method_2_code (2 : Nat) (Option.some (Jvm.ClassFile.FieldType.object "com/example/yusen/yusen/figures/TermFileException"))).before args0 about1 = true := code_word (m := ⟨2, 1⟩) (meth := k2m1) (c := k2c1) (by decide +kernel) rfl rfl rfl (by decide +kernel)
set_option maxRecDepth 65536 in
theorem w_c8 : (Jvm.Cond.code ({ cls := "com/example/yusen/yusen/figures/TermFileException", name := "<init>", desc := "(Ljava/lang/String;Ljava/lang/String;Ljava/lang/String;)V" } : Jvm.MethodName) prog_22_method_1_code (4 : Nat) (Option.none : Option Jvm.ClassFile.FieldType)).before args0 about1 = true := code_word (m := ⟨12, 0⟩) (meth := k12m0) (c := k12c0) (by decide +kernel) rfl rfl rfl (by decide +kernel)
set_option maxRecDepth 65536 in
theorem w_c9 : (Jvm.Cond.code ({ cls := "java/lang/StringBuilder", name := "<init>", desc := "()V" } : Jvm.MethodName) jdk_67_method_1_code (1 : Nat) (Option.none : Option Jvm.ClassFile.FieldType)).before args0 about1 = true := code_word (m := ⟨15, 0⟩) (meth := k15m0) (c := k15c0) (by decide +kernel) rfl rfl rfl (by decide +kernel)
set_option maxRecDepth 65536 in
theorem w_c10 : (Jvm.Cond.code ({ cls := "java/lang/AbstractStringBuilder", name := "<init>", desc := "(I)V" } : Jvm.MethodName) jdk_68_method_2_code (2 : Nat) (Option.none : Option Jvm.ClassFile.FieldType)).before args0 about1 = true := code_word (m := ⟨14, 1⟩) (meth := k14m1) (c := k14c1) (by decide +kernel) rfl rfl rfl (by decide +kernel)
set_option maxRecDepth 65536 in
theorem w_c11 : (Jvm.Cond.code ({ cls := "java/lang/StringBuilder", name := "append", desc := "(Ljava/lang/String;)Ljava/lang/StringBuilder;" } : Jvm.MethodName) jdk_67_method_7_code (2 : Nat) (Option.some (Jvm.ClassFile.FieldType.object "java/lang/StringBuilder"))).before args0 about1 = true := code_word (m := ⟨15, 1⟩) (meth := k15m1) (c := k15c1) (by decide +kernel) rfl rfl rfl (by decide +kernel)
set_option maxRecDepth 65536 in
theorem w_c12 : (Jvm.Cond.code ({ cls := "java/lang/AbstractStringBuilder", name := "append", desc := "(Ljava/lang/String;)Ljava/lang/AbstractStringBuilder;" } : Jvm.MethodName) jdk_68_method_22_code (3 : Nat) (Option.some (Jvm.ClassFile.FieldType.object "java/lang/AbstractStringBuilder"))).before args0 about1 = true := code_word (m := ⟨14, 4⟩) (meth := k14m4) (c := k14c4) (by decide +kernel) rfl rfl rfl (by decide +kernel)
set_option maxRecDepth 65536 in
theorem w_c13 : (Jvm.Cond.code ({ cls := "java/lang/String", name := "length", desc := "()I" } : Jvm.MethodName) jdk_42_method_54_code (1 : Nat) (Option.some Jvm.ClassFile.FieldType.int)).before args0 about1 = true := code_word (m := ⟨8, 3⟩) (meth := k8m3) (c := k8c3) (by decide +kernel) rfl rfl rfl (by decide +kernel)
set_option maxRecDepth 65536 in
theorem w_c14 : (Jvm.Cond.code ({ cls := "java/lang/String", name := "coder", desc := "()B" } : Jvm.MethodName) jdk_42_method_152_code (1 : Nat) (Option.some Jvm.ClassFile.FieldType.byte)).before args0 about1 = true := code_word (m := ⟨8, 8⟩) (meth := k8m8) (c := k8c8) (by decide +kernel) rfl rfl rfl (by decide +kernel)
set_option maxRecDepth 65536 in
theorem w_c15 : (Jvm.Cond.code ({ cls := "java/lang/AbstractStringBuilder", name := "ensureCapacityInternal", desc := "(I)V" } : Jvm.MethodName) jdk_68_method_9_code (3 : Nat) (Option.none : Option Jvm.ClassFile.FieldType)).before args0 about1 = true := code_word (m := ⟨14, 3⟩) (meth := k14m3) (c := k14c3) (by decide +kernel) rfl rfl rfl (by decide +kernel)
set_option maxRecDepth 65536 in
theorem w_c16 : (Jvm.Cond.code ({ cls := "java/lang/AbstractStringBuilder", name := "putStringAt", desc := "(ILjava/lang/String;)V" } : Jvm.MethodName) jdk_68_method_73_code (3 : Nat) (Option.none : Option Jvm.ClassFile.FieldType)).before args0 about1 = true := code_word (m := ⟨14, 8⟩) (meth := k14m8) (c := k14c8) (by decide +kernel) rfl rfl rfl (by decide +kernel)
set_option maxRecDepth 65536 in
theorem w_c17 : (Jvm.Cond.code ({ cls := "java/lang/AbstractStringBuilder", name := "inflateIfNeededFor", desc := "(Ljava/lang/String;)V" } : Jvm.MethodName) jdk_68_method_71_code (2 : Nat) (Option.none : Option Jvm.ClassFile.FieldType)).before args0 about1 = true := code_word (m := ⟨14, 7⟩) (meth := k14m7) (c := k14c7) (by decide +kernel) rfl rfl rfl (by decide +kernel)
set_option maxRecDepth 65536 in
theorem w_c18 : (Jvm.Cond.code ({ cls := "java/lang/String", name := "getBytes", desc := "([BIB)V" } : Jvm.MethodName) jdk_42_method_147_code (4 : Nat) (Option.none : Option Jvm.ClassFile.FieldType)).before args0 about1 = true := code_word (m := ⟨8, 5⟩) (meth := k8m5) (c := k8c5) (by decide +kernel) rfl rfl rfl (by decide +kernel)
set_option maxRecDepth 65536 in
theorem w_c19 : (Jvm.Cond.code ({ cls := "java/lang/StringBuilder", name := "toString", desc := "()Ljava/lang/String;" } : Jvm.MethodName) jdk_67_method_42_code (1 : Nat) (Option.some (Jvm.ClassFile.FieldType.object "java/lang/String"))).before args0 about1 = true := code_word (m := ⟨15, 2⟩) (meth := k15m2) (c := k15c2) (by decide +kernel) rfl rfl rfl (by decide +kernel)
set_option maxRecDepth 65536 in
theorem w_c20 : (Jvm.Cond.code ({ cls := "java/lang/String", name := "<init>", desc := "(Ljava/lang/StringBuilder;)V" } : Jvm.MethodName) jdk_42_method_53_code (2 : Nat) (Option.none : Option Jvm.ClassFile.FieldType)).before args0 about1 = true := code_word (m := ⟨8, 2⟩) (meth := k8m2) (c := k8c2) (by decide +kernel) rfl rfl rfl (by decide +kernel)
set_option maxRecDepth 65536 in
theorem w_c21 : (Jvm.Cond.code ({ cls := "java/lang/String", name := "<init>", desc := "(Ljava/lang/AbstractStringBuilder;Ljava/lang/Void;)V" } : Jvm.MethodName) jdk_42_method_150_code (5 : Nat) (Option.none : Option Jvm.ClassFile.FieldType)).before args0 about1 = true := code_word (m := ⟨8, 7⟩) (meth := k8m7) (c := k8c7) (by decide +kernel) rfl rfl rfl (by decide +kernel)
set_option maxRecDepth 65536 in
theorem w_c22 : (Jvm.Cond.code ({ cls := "java/lang/AbstractStringBuilder", name := "getValue", desc := "()[B" } : Jvm.MethodName) jdk_68_method_64_code (1 : Nat) (Option.some (Jvm.ClassFile.FieldType.array Jvm.ClassFile.FieldType.byte))).before args0 about1 = true := code_word (m := ⟨14, 5⟩) (meth := k14m5) (c := k14c5) (by decide +kernel) rfl rfl rfl (by decide +kernel)
set_option maxRecDepth 65536 in
theorem w_c23 : (Jvm.Cond.code ({ cls := "java/lang/StringBuilder", name := "length", desc := "()I" } : Jvm.MethodName) jdk_67_method_93_code (1 : Nat) (Option.some Jvm.ClassFile.FieldType.int)).before args0 about1 = true := code_word (m := ⟨15, 3⟩) (meth := k15m3) (c := k15c3) (by decide +kernel) rfl rfl rfl (by decide +kernel)
set_option maxRecDepth 65536 in
theorem w_c24 : (Jvm.Cond.code ({ cls := "java/lang/AbstractStringBuilder", name := "length", desc := "()I" } : Jvm.MethodName) jdk_68_method_6_code (1 : Nat) (Option.some Jvm.ClassFile.FieldType.int)).before args0 about1 = true := code_word (m := ⟨14, 2⟩) (meth := k14m2) (c := k14c2) (by decide +kernel) rfl rfl rfl (by decide +kernel)
set_option maxRecDepth 65536 in
theorem w_c25 : (Jvm.Cond.code ({ cls := "java/lang/AbstractStringBuilder", name := "isLatin1", desc := "()Z" } : Jvm.MethodName) jdk_68_method_68_code (1 : Nat) (Option.some Jvm.ClassFile.FieldType.boolean)).before args0 about1 = true := code_word (m := ⟨14, 6⟩) (meth := k14m6) (c := k14c6) (by decide +kernel) rfl rfl rfl (by decide +kernel)
set_option maxRecDepth 65536 in
theorem w_c26 : (Jvm.Cond.code ({ cls := "java/util/Arrays", name := "copyOfRange", desc := "([BII)[B" } : Jvm.MethodName) jdk_65_method_132_code (3 : Nat) (Option.some (Jvm.ClassFile.FieldType.array Jvm.ClassFile.FieldType.byte))).before args0 about1 = true := code_word (m := ⟨17, 2⟩) (meth := k17m2) (c := k17c2) (by decide +kernel) rfl rfl rfl (by decide +kernel)
set_option maxRecDepth 65536 in
theorem w_c27 : (Jvm.Cond.code ({ cls := "java/util/Arrays", name := "copyOfRangeByte", desc := "([BII)[B" } : Jvm.MethodName) jdk_65_method_133_code (5 : Nat) (Option.some (Jvm.ClassFile.FieldType.array Jvm.ClassFile.FieldType.byte))).before args0 about1 = true := code_word (m := ⟨17, 3⟩) (meth := k17m3) (c := k17c3) (by decide +kernel) rfl rfl rfl (by decide +kernel)
set_option maxRecDepth 65536 in
theorem w_c28 : (Jvm.Cond.code ({ cls := "java/util/Arrays", name := "checkLength", desc := "(II)V" } : Jvm.MethodName) jdk_65_method_131_code (2 : Nat) (Option.none : Option Jvm.ClassFile.FieldType)).before args0 about1 = true := code_word (m := ⟨17, 1⟩) (meth := k17m1) (c := k17c1) (by decide +kernel) rfl rfl rfl (by decide +kernel)
set_option maxRecDepth 65536 in
theorem w_c29 : (Jvm.Cond.code ({ cls := "java/lang/Math", name := "min", desc := "(II)I" } : Jvm.MethodName) jdk_29_method_69_code (2 : Nat) (Option.some Jvm.ClassFile.FieldType.int)).before args0 about1 = true := code_word (m := ⟨18, 1⟩) (meth := k18m1) (c := k18c1) (by decide +kernel) rfl rfl rfl (by decide +kernel)
set_option maxRecDepth 65536 in
theorem w_c30 : (Jvm.Cond.code ({ cls := "com/example/yusen/yusen/figures/InputException", name := "<init>", desc := "(Ljava/lang/String;)V" } : Jvm.MethodName) prog_17_method_1_code (2 : Nat) (Option.none : Option Jvm.ClassFile.FieldType)).before args0 about1 = true := code_word (m := ⟨11, 0⟩) (meth := k11m0) (c := k11c0) (by decide +kernel) rfl rfl rfl (by decide +kernel)
set_option maxRecDepth 65536 in
theorem w_c31 : (Jvm.Cond.code ({ cls := "java/lang/Exception", name := "<init>", desc := "(Ljava/lang/String;)V" } : Jvm.MethodName) jdk_59_method_2_code (2 : Nat) (Option.none : Option Jvm.ClassFile.FieldType)).before args0 about1 = true := code_word (m := ⟨10, 1⟩) (meth := k10m1) (c := k10c1) (by decide +kernel) rfl rfl rfl (by decide +kernel)
set_option maxRecDepth 65536 in
theorem w_c32 : (Jvm.Cond.code ({ cls := "java/lang/Throwable", name := "<init>", desc := "(Ljava/lang/String;)V" } : Jvm.MethodName) jdk_78_method_2_code (2 : Nat) (Option.none : Option Jvm.ClassFile.FieldType)).before args0 about1 = true := code_word (m := ⟨9, 1⟩) (meth := k9m1) (c := k9c1) (by decide +kernel) rfl rfl rfl (by decide +kernel)
set_option maxRecDepth 65536 in
theorem w_c33 : (Jvm.Cond.code ({ cls := "java/lang/Throwable", name := "<init>", desc := "()V" } : Jvm.MethodName) jdk_78_method_1_code (1 : Nat) (Option.none : Option Jvm.ClassFile.FieldType)).before args0 about1 = true := code_word (m := ⟨9, 0⟩) (meth := k9m0) (c := k9c0) (by decide +kernel) rfl rfl rfl (by decide +kernel)
set_option maxRecDepth 65536 in
theorem w_c34 : (Jvm.Cond.code ({ cls := "java/lang/Throwable", name := "getMessage", desc := "()Ljava/lang/String;" } : Jvm.MethodName) jdk_78_method_6_code (1 : Nat) (Option.some (Jvm.ClassFile.FieldType.object "java/lang/String"))).before args0 about1 = true := code_word (m := ⟨9, 2⟩) (meth := k9m2) (c := k9c2) (by decide +kernel) rfl rfl rfl (by decide +kernel)
set_option maxRecDepth 65536 in
theorem w_c35 : (Jvm.Cond.code ({ cls := "com/example/yusen/yusen/figures/TermFileFieldProblemPinLaw", name := "put", desc := "([CII)I" } : Jvm.MethodName) method_4_code (5 : Nat) (Option.some Jvm.ClassFile.FieldType.int)).before args0 about1 = true := code_word (m := ⟨1, 3⟩) (meth := k1m3) (c := k1c3) (by decide +kernel) rfl rfl rfl (by decide +kernel)
set_option maxRecDepth 65536 in
theorem w_c36 : (Jvm.Cond.code ({ cls := "com/example/yusen/yusen/figures/TermFileFieldProblemPinLaw", name := "same", desc := "(Ljava/lang/String;[CII)Z" } : Jvm.MethodName) method_5_code (4 : Nat) (Option.some Jvm.ClassFile.FieldType.boolean)).before args0 about1 = true := code_word (m := ⟨1, 4⟩) (meth := k1m4) (c := k1c4) (by decide +kernel) rfl rfl rfl (by decide +kernel)
set_option maxRecDepth 65536 in
theorem w_c37 : (Jvm.Cond.code ({ cls := "java/lang/String", name := "charAt", desc := "(I)C" } : Jvm.MethodName) jdk_42_method_56_code (2 : Nat) (Option.some Jvm.ClassFile.FieldType.char)).before args0 about1 = true := code_word (m := ⟨8, 4⟩) (meth := k8m4) (c := k8c4) (by decide +kernel) rfl rfl rfl (by decide +kernel)
set_option maxRecDepth 65536 in
theorem w_c38 : (Jvm.Cond.code ({ cls := "java/lang/String", name := "isLatin1", desc := "()Z" } : Jvm.MethodName) jdk_42_method_154_code (1 : Nat) (Option.some Jvm.ClassFile.FieldType.boolean)).before args0 about1 = true := code_word (m := ⟨8, 9⟩) (meth := k8m9) (c := k8c9) (by decide +kernel) rfl rfl rfl (by decide +kernel)
set_option maxRecDepth 65536 in
theorem w_c39 : (Jvm.Cond.code ({ cls := "java/lang/StringLatin1", name := "charAt", desc := "([BI)C" } : Jvm.MethodName) jdk_43_method_2_code (2 : Nat) (Option.some Jvm.ClassFile.FieldType.char)).before args0 about1 = true := code_word (m := ⟨19, 1⟩) (meth := k19m1) (c := k19c1) (by decide +kernel) rfl rfl rfl (by decide +kernel)
set_option maxRecDepth 65536 in
theorem w_c40 : (Jvm.Cond.code ({ cls := "java/lang/String", name := "checkIndex", desc := "(II)V" } : Jvm.MethodName) jdk_42_method_155_code (2 : Nat) (Option.none : Option Jvm.ClassFile.FieldType)).before args0 about1 = true := code_word (m := ⟨8, 10⟩) (meth := k8m10) (c := k8c10) (by decide +kernel) rfl rfl rfl (by decide +kernel)
set_option maxRecDepth 65536 in
theorem w_c41 : (Jvm.Cond.code ({ cls := "jdk/internal/util/Preconditions", name := "checkIndex", desc := "(IILjava/util/function/BiFunction;)I" } : Jvm.MethodName) jdk_41_method_11_code (3 : Nat) (Option.some Jvm.ClassFile.FieldType.int)).before args0 about1 = true := code_word (m := ⟨20, 1⟩) (meth := k20m1) (c := k20c1) (by decide +kernel) rfl rfl rfl (by decide +kernel)
set_option maxRecDepth 65536 in
theorem w_c42 : (Jvm.Cond.code ({ cls := "java/lang/StringUTF16", name := "compress", desc := "([CII)[B" } : Jvm.MethodName) jdk_52_method_16_code (6 : Nat) (Option.some (Jvm.ClassFile.FieldType.array Jvm.ClassFile.FieldType.byte))).before args0 about1 = true := code_word (m := ⟨21, 2⟩) (meth := k21m2) (c := k21c2) (by decide +kernel) rfl rfl rfl (by decide +kernel)
set_option maxRecDepth 65536 in
theorem w_c43 : (Jvm.Cond.code ({ cls := "java/lang/StringUTF16", name := "compress", desc := "([CI[BII)I" } : Jvm.MethodName) jdk_52_method_21_code (7 : Nat) (Option.some Jvm.ClassFile.FieldType.int)).before args0 about1 = true := code_word (m := ⟨21, 3⟩) (meth := k21m3) (c := k21c3) (by decide +kernel) rfl rfl rfl (by decide +kernel)
set_option maxRecDepth 65536 in
theorem w_c44 : (Jvm.Cond.code ({ cls := "java/lang/StringUTF16", name := "coderFromArrayLen", desc := "([BI)B" } : Jvm.MethodName) jdk_52_method_15_code (2 : Nat) (Option.some Jvm.ClassFile.FieldType.byte)).before args0 about1 = true := code_word (m := ⟨21, 1⟩) (meth := k21m1) (c := k21c1) (by decide +kernel) rfl rfl rfl (by decide +kernel)
def codes1 : List Jvm.Cond := [Jvm.Cond.code x code maxLocals ret, Jvm.Cond.code ({ cls := "com/example/yusen/yusen/figures/TermFileFieldProblemPinLaw", name := "str", desc := "(I)Ljava/lang/String;" } : Jvm.MethodName) method_3_code (4 : Nat) (Option.some (Jvm.ClassFile.FieldType.object "java/lang/String")), Jvm.Cond.code ({ cls := "com/example/yusen/yusen/figures/TermFileFieldProblemPinLaw", name := "len", desc := "(I)I" } : Jvm.MethodName) method_2_code (1 : Nat) (Option.some Jvm.ClassFile.FieldType.int), Jvm.Cond.code ({ cls := "java/lang/String", name := "<init>", desc := "([C)V" } : Jvm.MethodName) jdk_42_method_3_code (2 : Nat) (Option.none : Option Jvm.ClassFile.FieldType), Jvm.Cond.code ({ cls := "java/lang/String", name := "<init>", desc := "([CIILjava/lang/Void;)V" } : Jvm.MethodName) jdk_42_method_149_code (6 : Nat) (Option.none : Option Jvm.ClassFile.FieldType), Jvm.Cond.code ({ cls := "java/lang/Object", name := "<init>", desc := "()V" } : Jvm.MethodName) object_method_1_code (1 : Nat) (Option.none : Option Jvm.ClassFile.FieldType), Jvm.Cond.code ({ cls := "com/example/yusen/yusen/figures/TermFileField", name := "<init>", desc := "(Ljava/lang/String;Ljava/lang/String;)V" } : Jvm.MethodName) prog_23_method_1_code (3 : Nat) (Option.none : Option Jvm.ClassFile.FieldType), Jvm.Cond.code ({ cls := "com/example/yusen/yusen/figures/TermFileField", name := "problem", desc := "(Ljava/lang/String;)Lcom/example/yusen/yusen/figures/TermFileException;" } : Jvm.MethodName) prog_23_method_2_code (2 : Nat) (Option.some (Jvm.ClassFile.FieldType.object "com/example/yusen/yusen/figures/TermFileException")), Jvm.Cond.code ({ cls := "com/example/yusen/yusen/figures/TermFileException", name := "<init>", desc := "(Ljava/lang/String;Ljava/lang/String;Ljava/lang/String;)V" } : Jvm.MethodName) prog_22_method_1_code (4 : Nat) (Option.none : Option Jvm.ClassFile.FieldType), Jvm.Cond.code ({ cls := "java/lang/StringBuilder", name := "<init>", desc := "()V" } : Jvm.MethodName) jdk_67_method_1_code (1 : Nat) (Option.none : Option Jvm.ClassFile.FieldType), Jvm.Cond.code ({ cls := "java/lang/AbstractStringBuilder", name := "<init>", desc := "(I)V" } : Jvm.MethodName) jdk_68_method_2_code (2 : Nat) (Option.none : Option Jvm.ClassFile.FieldType), Jvm.Cond.code ({ cls := "java/lang/StringBuilder", name := "append", desc := "(Ljava/lang/String;)Ljava/lang/StringBuilder;" } : Jvm.MethodName) jdk_67_method_7_code (2 : Nat) (Option.some (Jvm.ClassFile.FieldType.object "java/lang/StringBuilder")), Jvm.Cond.code ({ cls := "java/lang/AbstractStringBuilder", name := "append", desc := "(Ljava/lang/String;)Ljava/lang/AbstractStringBuilder;" } : Jvm.MethodName) jdk_68_method_22_code (3 : Nat) (Option.some (Jvm.ClassFile.FieldType.object "java/lang/AbstractStringBuilder")), Jvm.Cond.code ({ cls := "java/lang/String", name := "length", desc := "()I" } : Jvm.MethodName) jdk_42_method_54_code (1 : Nat) (Option.some Jvm.ClassFile.FieldType.int), Jvm.Cond.code ({ cls := "java/lang/String", name := "coder", desc := "()B" } : Jvm.MethodName) jdk_42_method_152_code (1 : Nat) (Option.some Jvm.ClassFile.FieldType.byte), Jvm.Cond.code ({ cls := "java/lang/AbstractStringBuilder", name := "ensureCapacityInternal", desc := "(I)V" } : Jvm.MethodName) jdk_68_method_9_code (3 : Nat) (Option.none : Option Jvm.ClassFile.FieldType), Jvm.Cond.code ({ cls := "java/lang/AbstractStringBuilder", name := "putStringAt", desc := "(ILjava/lang/String;)V" } : Jvm.MethodName) jdk_68_method_73_code (3 : Nat) (Option.none : Option Jvm.ClassFile.FieldType), Jvm.Cond.code ({ cls := "java/lang/AbstractStringBuilder", name := "inflateIfNeededFor", desc := "(Ljava/lang/String;)V" } : Jvm.MethodName) jdk_68_method_71_code (2 : Nat) (Option.none : Option Jvm.ClassFile.FieldType), Jvm.Cond.code ({ cls := "java/lang/String", name := "getBytes", desc := "([BIB)V" } : Jvm.MethodName) jdk_42_method_147_code (4 : Nat) (Option.none : Option Jvm.ClassFile.FieldType), Jvm.Cond.code ({ cls := "java/lang/StringBuilder", name := "toString", desc := "()Ljava/lang/String;" } : Jvm.MethodName) jdk_67_method_42_code (1 : Nat) (Option.some (Jvm.ClassFile.FieldType.object "java/lang/String")), Jvm.Cond.code ({ cls := "java/lang/String", name := "<init>", desc := "(Ljava/lang/StringBuilder;)V" } : Jvm.MethodName) jdk_42_method_53_code (2 : Nat) (Option.none : Option Jvm.ClassFile.FieldType), Jvm.Cond.code ({ cls := "java/lang/String", name := "<init>", desc := "(Ljava/lang/AbstractStringBuilder;Ljava/lang/Void;)V" } : Jvm.MethodName) jdk_42_method_150_code (5 : Nat) (Option.none : Option Jvm.ClassFile.FieldType), Jvm.Cond.code ({ cls := "java/lang/AbstractStringBuilder", name := "getValue", desc := "()[B" } : Jvm.MethodName) jdk_68_method_64_code (1 : Nat) (Option.some (Jvm.ClassFile.FieldType.array Jvm.ClassFile.FieldType.byte)), Jvm.Cond.code ({ cls := "java/lang/StringBuilder", name := "length", desc := "()I" } : Jvm.MethodName) jdk_67_method_93_code (1 : Nat) (Option.some Jvm.ClassFile.FieldType.int), Jvm.Cond.code ({ cls := "java/lang/AbstractStringBuilder", name := "length", desc := "()I" } : Jvm.MethodName) jdk_68_method_6_code (1 : Nat) (Option.some Jvm.ClassFile.FieldType.int), Jvm.Cond.code ({ cls := "java/lang/AbstractStringBuilder", name := "isLatin1", desc := "()Z" } : Jvm.MethodName) jdk_68_method_68_code (1 : Nat) (Option.some Jvm.ClassFile.FieldType.boolean), Jvm.Cond.code ({ cls := "java/util/Arrays", name := "copyOfRange", desc := "([BII)[B" } : Jvm.MethodName) jdk_65_method_132_code (3 : Nat) (Option.some (Jvm.ClassFile.FieldType.array Jvm.ClassFile.FieldType.byte)), Jvm.Cond.code ({ cls := "java/util/Arrays", name := "copyOfRangeByte", desc := "([BII)[B" } : Jvm.MethodName) jdk_65_method_133_code (5 : Nat) (Option.some (Jvm.ClassFile.FieldType.array Jvm.ClassFile.FieldType.byte)), Jvm.Cond.code ({ cls := "java/util/Arrays", name := "checkLength", desc := "(II)V" } : Jvm.MethodName) jdk_65_method_131_code (2 : Nat) (Option.none : Option Jvm.ClassFile.FieldType), Jvm.Cond.code ({ cls := "java/lang/Math", name := "min", desc := "(II)I" } : Jvm.MethodName) jdk_29_method_69_code (2 : Nat) (Option.some Jvm.ClassFile.FieldType.int), Jvm.Cond.code ({ cls := "com/example/yusen/yusen/figures/InputException", name := "<init>", desc := "(Ljava/lang/String;)V" } : Jvm.MethodName) prog_17_method_1_code (2 : Nat) (Option.none : Option Jvm.ClassFile.FieldType), Jvm.Cond.code ({ cls := "java/lang/Exception", name := "<init>", desc := "(Ljava/lang/String;)V" } : Jvm.MethodName) jdk_59_method_2_code (2 : Nat) (Option.none : Option Jvm.ClassFile.FieldType), Jvm.Cond.code ({ cls := "java/lang/Throwable", name := "<init>", desc := "(Ljava/lang/String;)V" } : Jvm.MethodName) jdk_78_method_2_code (2 : Nat) (Option.none : Option Jvm.ClassFile.FieldType), Jvm.Cond.code ({ cls := "java/lang/Throwable", name := "<init>", desc := "()V" } : Jvm.MethodName) jdk_78_method_1_code (1 : Nat) (Option.none : Option Jvm.ClassFile.FieldType), Jvm.Cond.code ({ cls := "java/lang/Throwable", name := "getMessage", desc := "()Ljava/lang/String;" } : Jvm.MethodName) jdk_78_method_6_code (1 : Nat) (Option.some (Jvm.ClassFile.FieldType.object "java/lang/String")), Jvm.Cond.code ({ cls := "com/example/yusen/yusen/figures/TermFileFieldProblemPinLaw", name := "put", desc := "([CII)I" } : Jvm.MethodName) method_4_code (5 : Nat) (Option.some Jvm.ClassFile.FieldType.int), Jvm.Cond.code ({ cls := "com/example/yusen/yusen/figures/TermFileFieldProblemPinLaw", name := "same", desc := "(Ljava/lang/String;[CII)Z" } : Jvm.MethodName) method_5_code (4 : Nat) (Option.some Jvm.ClassFile.FieldType.boolean), Jvm.Cond.code ({ cls := "java/lang/String", name := "charAt", desc := "(I)C" } : Jvm.MethodName) jdk_42_method_56_code (2 : Nat) (Option.some Jvm.ClassFile.FieldType.char), Jvm.Cond.code ({ cls := "java/lang/String", name := "isLatin1", desc := "()Z" } : Jvm.MethodName) jdk_42_method_154_code (1 : Nat) (Option.some Jvm.ClassFile.FieldType.boolean), Jvm.Cond.code ({ cls := "java/lang/StringLatin1", name := "charAt", desc := "([BI)C" } : Jvm.MethodName) jdk_43_method_2_code (2 : Nat) (Option.some Jvm.ClassFile.FieldType.char), Jvm.Cond.code ({ cls := "java/lang/String", name := "checkIndex", desc := "(II)V" } : Jvm.MethodName) jdk_42_method_155_code (2 : Nat) (Option.none : Option Jvm.ClassFile.FieldType), Jvm.Cond.code ({ cls := "jdk/internal/util/Preconditions", name := "checkIndex", desc := "(IILjava/util/function/BiFunction;)I" } : Jvm.MethodName) jdk_41_method_11_code (3 : Nat) (Option.some Jvm.ClassFile.FieldType.int), Jvm.Cond.code ({ cls := "java/lang/StringUTF16", name := "compress", desc := "([CII)[B" } : Jvm.MethodName) jdk_52_method_16_code (6 : Nat) (Option.some (Jvm.ClassFile.FieldType.array Jvm.ClassFile.FieldType.byte)), Jvm.Cond.code ({ cls := "java/lang/StringUTF16", name := "compress", desc := "([CI[BII)I" } : Jvm.MethodName) jdk_52_method_21_code (7 : Nat) (Option.some Jvm.ClassFile.FieldType.int), Jvm.Cond.code ({ cls := "java/lang/StringUTF16", name := "coderFromArrayLen", desc := "([BI)B" } : Jvm.MethodName) jdk_52_method_15_code (2 : Nat) (Option.some Jvm.ClassFile.FieldType.byte)]
set_option maxRecDepth 65536 in
theorem codes_eq : words1.filter isCode = codes1 := rfl
theorem w_codes : ∀ c ∈ words1.filter isCode, c.before args0 about1 = true := by
  rw [codes_eq]
  intro c hc
  simp only [codes1, List.mem_cons, List.not_mem_nil, or_false] at hc
  rcases hc with rfl | rfl | rfl | rfl | rfl | rfl | rfl | rfl | rfl | rfl | rfl | rfl | rfl | rfl | rfl | rfl | rfl | rfl | rfl | rfl | rfl | rfl | rfl | rfl | rfl | rfl | rfl | rfl | rfl | rfl | rfl | rfl | rfl | rfl | rfl | rfl | rfl | rfl | rfl | rfl | rfl | rfl | rfl | rfl | rfl
  · exact w_c0
  · exact w_c1
  · exact w_c2
  · exact w_c3
  · exact w_c4
  · exact w_c5
  · exact w_c6
  · exact w_c7
  · exact w_c8
  · exact w_c9
  · exact w_c10
  · exact w_c11
  · exact w_c12
  · exact w_c13
  · exact w_c14
  · exact w_c15
  · exact w_c16
  · exact w_c17
  · exact w_c18
  · exact w_c19
  · exact w_c20
  · exact w_c21
  · exact w_c22
  · exact w_c23
  · exact w_c24
  · exact w_c25
  · exact w_c26
  · exact w_c27
  · exact w_c28
  · exact w_c29
  · exact w_c30
  · exact w_c31
  · exact w_c32
  · exact w_c33
  · exact w_c34
  · exact w_c35
  · exact w_c36
  · exact w_c37
  · exact w_c38
  · exact w_c39
  · exact w_c40
  · exact w_c41
  · exact w_c42
  · exact w_c43
  · exact w_c44
set_option maxRecDepth 65536 in
theorem w_t1 : (words1.take 24).all (fun c => isCode c || c.before args0 about1) = true := by decide +kernel
set_option maxRecDepth 65536 in
theorem w_t2 : ((words1.drop 24).take 24).all (fun c => isCode c || c.before args0 about1) = true := by decide +kernel
set_option maxRecDepth 65536 in
theorem w_t3 : (((words1.drop 24).drop 24).take 24).all (fun c => isCode c || c.before args0 about1) = true := by decide +kernel
set_option maxRecDepth 65536 in
theorem w_t4 : ((((words1.drop 24).drop 24).drop 24).take 24).all (fun c => isCode c || c.before args0 about1) = true := by decide +kernel
set_option maxRecDepth 65536 in
theorem w_t5 : (((((words1.drop 24).drop 24).drop 24).drop 24).take 24).all (fun c => isCode c || c.before args0 about1) = true := by decide +kernel
set_option maxRecDepth 65536 in
theorem w_t6 : ((((((words1.drop 24).drop 24).drop 24).drop 24).drop 24).take 24).all (fun c => isCode c || c.before args0 about1) = true := by decide +kernel
set_option maxRecDepth 65536 in
theorem w_t7 : (((((((words1.drop 24).drop 24).drop 24).drop 24).drop 24).drop 24).take 24).all (fun c => isCode c || c.before args0 about1) = true := by decide +kernel
set_option maxRecDepth 65536 in
theorem w_t8 : ((((((((words1.drop 24).drop 24).drop 24).drop 24).drop 24).drop 24).drop 24).take 24).all (fun c => isCode c || c.before args0 about1) = true := by decide +kernel
set_option maxRecDepth 65536 in
theorem w_t9 : (((((((((words1.drop 24).drop 24).drop 24).drop 24).drop 24).drop 24).drop 24).drop 24).take 24).all (fun c => isCode c || c.before args0 about1) = true := by decide +kernel
set_option maxRecDepth 65536 in
theorem w_t10 : ((((((((((words1.drop 24).drop 24).drop 24).drop 24).drop 24).drop 24).drop 24).drop 24).drop 24).take 24).all (fun c => isCode c || c.before args0 about1) = true := by decide +kernel
set_option maxRecDepth 65536 in
theorem w_t11 : (((((((((((words1.drop 24).drop 24).drop 24).drop 24).drop 24).drop 24).drop 24).drop 24).drop 24).drop 24).take 24).all (fun c => isCode c || c.before args0 about1) = true := by decide +kernel
set_option maxRecDepth 65536 in
theorem w_t12 : (((((((((((words1.drop 24).drop 24).drop 24).drop 24).drop 24).drop 24).drop 24).drop 24).drop 24).drop 24).drop 24).all (fun c => isCode c || c.before args0 about1) = true := by decide +kernel
theorem w_tables : (allAtoms (Jvm.Cond.code x code maxLocals ret :: tables_1)).before args0 about1 = true := by
  rw [allAtoms_all]
  show words1.all (fun c => c.before args0 about1) = true
  refine all_split ?_ w_codes
  rw [← List.take_append_drop 24 words1, List.all_append, w_t1, ← List.take_append_drop 24 (words1.drop 24), List.all_append, w_t2, ← List.take_append_drop 24 ((words1.drop 24).drop 24), List.all_append, w_t3, ← List.take_append_drop 24 (((words1.drop 24).drop 24).drop 24), List.all_append, w_t4, ← List.take_append_drop 24 ((((words1.drop 24).drop 24).drop 24).drop 24), List.all_append, w_t5, ← List.take_append_drop 24 (((((words1.drop 24).drop 24).drop 24).drop 24).drop 24), List.all_append, w_t6, ← List.take_append_drop 24 ((((((words1.drop 24).drop 24).drop 24).drop 24).drop 24).drop 24), List.all_append, w_t7, ← List.take_append_drop 24 (((((((words1.drop 24).drop 24).drop 24).drop 24).drop 24).drop 24).drop 24), List.all_append, w_t8, ← List.take_append_drop 24 ((((((((words1.drop 24).drop 24).drop 24).drop 24).drop 24).drop 24).drop 24).drop 24), List.all_append, w_t9, ← List.take_append_drop 24 (((((((((words1.drop 24).drop 24).drop 24).drop 24).drop 24).drop 24).drop 24).drop 24).drop 24), List.all_append, w_t10, ← List.take_append_drop 24 ((((((((((words1.drop 24).drop 24).drop 24).drop 24).drop 24).drop 24).drop 24).drop 24).drop 24).drop 24), List.all_append, w_t11, w_t12]
  rfl
set_option maxRecDepth 65536 in
theorem w_rest : rest_1_c.before args0 about1 = true := by decide +kernel
set_option maxRecDepth 65536 in
theorem w_case : (Jvm.Cond.and given_1 narrow_1).before args0 about1 = true := by decide +kernel
set_option maxRecDepth 65536 in
theorem w_consts : constsHeld consts_1 about1 := Jvm.Lit.constsHeldB_iff.mp (by decide +kernel)
theorem w_applies : (headSpec (Jvm.Cond.code x code maxLocals ret :: tables_1) room_1).applies x e0.platform about1 = true :=
  (Spec.applies_iff w_frames).mpr ⟨w_running, w_runnable, w_alone, w_named, w_hears, w_ripe, w_room, w_tables⟩
theorem atStart : AtStart classFile x code maxLocals ret World_1 tables_1 room_1 Calls_1 rest_1 Pre_1 launch0 p0 e0 about1 theMethod args0 below0 :=
  ⟨lists_1, trivial, launch0.admits_env _ _ _, launch0.least_env, fairChoices_fair.cas, fairChoices_fair.clock, w_frames, w_args, w_heap, w_applies, ⟨(by decide +kernel : framesKnown about1 = true), ⟨(by decide +kernel : tablesKnown about1 = true), ⟨w_consts, trivial⟩⟩⟩, w_rest, w_case⟩
end start1
theorem witness_1 : WitnessClaimed_1 := ⟨start1.p0, start1.e0, start1.about1, start1.theMethod, start1.args0, start1.below0, start1.atStart⟩
end Jvm.Pilot.@@N@@
