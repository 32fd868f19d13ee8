import JvmDerived
import JvmDerived.Pilot.@@N@@Statement
import JvmDerived.Pilot.@@N@@Code
set_option linter.unusedVariables false
set_option linter.unusedSimpArgs false
@@BLOCK:LamKit.lean.txt@@
namespace Jvm.Own
open Jvm Jvm.ClassFile Sem Op Lib Jvm.Free Jvm.Stand Jvm.LawKit Jvm.RoadKit Bundle
/-! The walk's own layer: 'On' bears all that a walk knows of where it stands, 'Go' is what is left to show; one law an instruction, in the shape 'Go behind it gives Go ahead of it'. -/
abbrev Cx : Type := Program × Launch × Env × State × MethodId × Array Value × List Frame × Method × Code
abbrev Cx.p (C : Cx) : Program := C.1
abbrev Cx.l (C : Cx) : Launch := C.2.1
abbrev Cx.e (C : Cx) : Env := C.2.2.1
abbrev Cx.s (C : Cx) : State := C.2.2.2.1
abbrev Cx.m (C : Cx) : MethodId := C.2.2.2.2.1
abbrev Cx.args (C : Cx) : Array Value := C.2.2.2.2.2.1
abbrev Cx.below (C : Cx) : List Frame := C.2.2.2.2.2.2.1
abbrev Cx.meth (C : Cx) : Method := C.2.2.2.2.2.2.2.1
abbrev Cx.c (C : Cx) : Code := C.2.2.2.2.2.2.2.2
/-- an instruction of the body b -/
def Ins (b : ByteArray) (pc : Nat) (i : Instr) (len pc' : Nat) : Prop := decode b pc = .ok (i, len) ∧ pc + len = pc'
/-- where a branch goes -/
def Jmp (pc : Nat) (o : Int) (pc' : Nat) : Prop := 0 ≤ (pc : Int) + o ∧ ((pc : Int) + o).toNat = pc'
/-- the frame of an end -/
def EndQ (q : Bool) (s : State) (o : Outcome) (t : State) (L : List Loc) (k n : Nat) : Prop := ReturnedEndW s o t L k n ∧ (q = true → FrameEnd s o t L k n)
def On (C : Cx) (R : Room) (own : String) (b : ByteArray) (ml : Nat) (rt : Option FieldType) (nm : String) (q : Bool) (Z : State) (a0 : Array Value) (EL : List (String × Nat)) (n0 : Nat) (vm : Vm) (T : State) (h : Heap) (k n : Nat) : Prop :=
  (∃ (k0 : Nat) (locs : List Loc), Stand C.p C.l C.e R (C.s.setVm vm) C.m C.args C.below C.meth C.c T locs k n ∧ Fr n0 locs ∧ C.s.Since vm k0 ∧ k0 ≤ h.size) ∧ T.heap = h ∧ C.p.tables.exec = Jvm.exec ∧ C.c.code = b ∧ C.c.maxLocals = ml ∧ C.meth.sig.returnType = rt ∧ C.meth.name = nm ∧ C.meth.locks = false ∧
    Z.Warmed39 vm ∧ vm.findClass own = some C.m.cls ∧ EW Z a0 EL ∧ CHr Z EL C.s.vm C.s.heap vm h ∧ (q = true → C.s.WarmedH vm) ∧ Old Z n0 h
def Go (C : Cx) (R : Room) (q : Bool) (Z : State) (EL : List (String × Nat)) (n0 : Nat) (Q : Option Value → Heap → (Addr → Prop) → Prop) (T : State) (pc : Nat) (Ls : Array Slot) (st : List Value) : Prop :=
  ∃ s₂ o, Steps C.p.tables C.e C.below (T.setTop (mkF C.m pc Ls st)) s₂ ∧ s₂.status = .running ∧ Ended s₂ C.below o ∧ ∃ v L, o = .returned v ∧ (Q v s₂.heap (Safe Z EL s₂.vm s₂.heap) ∧ Fr n0 L ∧ Old Z n0 s₂.heap) ∧ CHr Z EL C.s.vm C.s.heap s₂.vm s₂.heap ∧ EndQ q C.s o s₂ L R.cells R.slots
section Laws
variable {C : Cx} {R : Room} {own : String} {b : ByteArray} {ml : Nat} {rt : Option FieldType} {nm : String} {q : Bool} {Z : State} {a0 : Array Value} {EL : List (String × Nat)} {n0 : Nat} {vm : Vm} {T : State} {h : Heap} {k n : Nat} {Q : Option Value → Heap → (Addr → Prop) → Prop} {pc pc' pt : Nat} {Ls Ls' : Array Slot} {st : List Value}
theorem Go.of {T' : State} {Ls' : Array Slot} {st' : List Value} (f : ∀ t, Steps C.p.tables C.e C.below (T'.setTop (mkF C.m pc' Ls' st')) t → Steps C.p.tables C.e C.below (T.setTop (mkF C.m pc Ls st)) t) (g : Go C R q Z EL n0 Q T' pc' Ls' st') : Go C R q Z EL n0 Q T pc Ls st := by
  obtain ⟨s2, o, hs, r⟩ := g
  exact ⟨s2, o, f _ hs, r⟩
theorem On.here (X : On C R own b ml rt nm q Z a0 EL n0 vm T h k n) : At T C.m C.c C.below := by
  obtain ⟨⟨_, _, S, -⟩, -⟩ := X; exact S.here
theorem On.exec (X : On C R own b ml rt nm q Z a0 EL n0 vm T h k n) : C.p.tables.exec = Jvm.exec := X.2.2.1
theorem On.dec (X : On C R own b ml rt nm q Z a0 EL n0 vm T h k n) {i : Instr} {len : Nat} (hi : Ins b pc i len pc') : decode C.c.code pc = .ok (i, len) := by rw [X.2.2.2.1]; exact hi.1
theorem On.zw (X : On C R own b ml rt nm q Z a0 EL n0 vm T h k n) : Z.Warmed39 vm := X.2.2.2.2.2.2.2.2.1
theorem On.owned (X : On C R own b ml rt nm q Z a0 EL n0 vm T h k n) : vm.findClass own = some C.m.cls := X.2.2.2.2.2.2.2.2.2.1
theorem On.ew (X : On C R own b ml rt nm q Z a0 EL n0 vm T h k n) : EW Z a0 EL := X.2.2.2.2.2.2.2.2.2.2.1
theorem On.chr (X : On C R own b ml rt nm q Z a0 EL n0 vm T h k n) : CHr Z EL C.s.vm C.s.heap vm h := X.2.2.2.2.2.2.2.2.2.2.2.1
theorem On.chv (X : On C R own b ml rt nm q Z a0 EL n0 vm T h k n) : CHv Z EL vm h := X.chr.1
theorem On.warm (X : On C R own b ml rt nm q Z a0 EL n0 vm T h k n) : q = true → C.s.WarmedH vm := X.2.2.2.2.2.2.2.2.2.2.2.2.1
theorem On.old (X : On C R own b ml rt nm q Z a0 EL n0 vm T h k n) : Old Z n0 h := X.2.2.2.2.2.2.2.2.2.2.2.2.2
theorem On.n0le (X : On C R own b ml rt nm q Z a0 EL n0 vm T h k n) : n0 ≤ h.size := X.old.1 ▸ X.old.2.1
theorem On.ext0 (X : On C R own b ml rt nm q Z a0 EL n0 vm T h k n) : Ext Z.heap h := X.old.2
theorem On.eT (X : On C R own b ml rt nm q Z a0 EL n0 vm T h k n) : T.heap = h := X.2.1
theorem On.put (X : On C R own b ml rt nm q Z a0 EL n0 vm T h k n) {T' : State} {h' : Heap} {k' n' k0 : Nat} {locs' : List Loc} (S' : Stand C.p C.l C.e R (C.s.setVm vm) C.m C.args C.below C.meth C.c T' locs' k' n') (N' : Fr n0 locs') (hS : C.s.Since vm k0) (hk : k0 ≤ h.size)
    (e' : T'.heap = h') (hc : CHr Z EL vm h vm h') (hO : Old Z n0 h') : On C R own b ml rt nm q Z a0 EL n0 vm T' h' k' n' := by
  obtain ⟨-, -, e2, e3, e4, e5, e6, e7, e8, e9, e10, e11, e12, e13⟩ := X
  exact ⟨⟨k0, locs', S', N', hS, Nat.le_trans hk hc.2.1⟩, e', e2, e3, e4, e5, e6, e7, e8, e9, e10, e11.trans hc, e12, hO⟩
theorem On.more (X : On C R own b ml rt nm q Z a0 EL n0 vm T h k n) {k' n' : Nat} (hk : k ≤ k') (hn : n ≤ n') : On C R own b ml rt nm q Z a0 EL n0 vm T h k' n' := by
  obtain ⟨⟨k0, locs, S, N, hS, hk0⟩, -⟩ := id X
  exact X.put (S.more hk hn) N hS hk0 X.eT (CHr.refl X.chv) X.old
/-! ### plain steps -/
theorem On.aload_n (X : On C R own b ml rt nm q Z a0 EL n0 vm T h k n) {j : Fin 4} {v : Value} (hi : Ins b pc (.aload_n j) 1 pc') (hl : Ls[j.val]? = some (.val v)) (hv : v.isRef = true) (g : Go C R q Z EL n0 Q T pc' Ls (v :: st)) : Go C R q Z EL n0 Q T pc Ls st := by
  obtain ⟨-, rfl⟩ := id hi; exact Go.of (fun t z => XS.aloadN X.here X.exec rfl (X.dec hi) hl hv z) g
theorem On.aload (X : On C R own b ml rt nm q Z a0 EL n0 vm T h k n) {j : Nat} {v : Value} (hi : Ins b pc (.aload j) 2 pc') (hl : Ls[j]? = some (.val v)) (hv : v.isRef = true) (g : Go C R q Z EL n0 Q T pc' Ls (v :: st)) : Go C R q Z EL n0 Q T pc Ls st := by
  obtain ⟨-, rfl⟩ := id hi; exact Go.of (fun t z => XS.aload X.here X.exec rfl (X.dec hi) hl hv z) g
theorem On.iload_n (X : On C R own b ml rt nm q Z a0 EL n0 vm T h k n) {j : Fin 4} {v : Int32} (hi : Ins b pc (.iload_n j) 1 pc') (hl : Ls[j.val]? = some (.val (.int v))) (g : Go C R q Z EL n0 Q T pc' Ls (.int v :: st)) : Go C R q Z EL n0 Q T pc Ls st := by
  obtain ⟨-, rfl⟩ := id hi; exact Go.of (fun t z => XS.iloadN X.here X.exec rfl (X.dec hi) hl z) g
theorem On.iload (X : On C R own b ml rt nm q Z a0 EL n0 vm T h k n) {j : Nat} {v : Int32} (hi : Ins b pc (.iload j) 2 pc') (hl : Ls[j]? = some (.val (.int v))) (g : Go C R q Z EL n0 Q T pc' Ls (.int v :: st)) : Go C R q Z EL n0 Q T pc Ls st := by
  obtain ⟨-, rfl⟩ := id hi; exact Go.of (fun t z => XS.iload X.here X.exec rfl (X.dec hi) hl z) g
theorem On.lload_n (X : On C R own b ml rt nm q Z a0 EL n0 vm T h k n) {j : Fin 4} {v : Int64} (hi : Ins b pc (.lload_n j) 1 pc') (hl : Ls[j.val]? = some (.val (.long v))) (g : Go C R q Z EL n0 Q T pc' Ls (.long v :: st)) : Go C R q Z EL n0 Q T pc Ls st := by
  obtain ⟨-, rfl⟩ := id hi; exact Go.of (fun t z => XS.lloadN X.here X.exec rfl (X.dec hi) hl z) g
theorem On.lload (X : On C R own b ml rt nm q Z a0 EL n0 vm T h k n) {j : Nat} {v : Int64} (hi : Ins b pc (.lload j) 2 pc') (hl : Ls[j]? = some (.val (.long v))) (g : Go C R q Z EL n0 Q T pc' Ls (.long v :: st)) : Go C R q Z EL n0 Q T pc Ls st := by
  obtain ⟨-, rfl⟩ := id hi; exact Go.of (fun t z => XS.lload X.here X.exec rfl (X.dec hi) hl z) g
theorem On.iconst (X : On C R own b ml rt nm q Z a0 EL n0 vm T h k n) {i : Int} {z : Int32} (hi : Ins b pc (.iconst i) 1 pc') (hz : Int32.ofInt i = z) (g : Go C R q Z EL n0 Q T pc' Ls (.int z :: st)) : Go C R q Z EL n0 Q T pc Ls st := by
  subst hz; obtain ⟨-, rfl⟩ := id hi; exact Go.of (fun t z => XS.iconst X.here X.exec rfl (X.dec hi) z) g
theorem On.bipush (X : On C R own b ml rt nm q Z a0 EL n0 vm T h k n) {i : Int} {z : Int32} (hi : Ins b pc (.bipush i) 2 pc') (hz : (Int8.ofInt i).toInt32 = z) (g : Go C R q Z EL n0 Q T pc' Ls (.int z :: st)) : Go C R q Z EL n0 Q T pc Ls st := by
  subst hz; obtain ⟨-, rfl⟩ := id hi; exact Go.of (fun t z => XS.bipush X.here X.exec rfl (X.dec hi) z) g
theorem On.sipush (X : On C R own b ml rt nm q Z a0 EL n0 vm T h k n) {i : Int} {z : Int32} (hi : Ins b pc (.sipush i) 3 pc') (hz : (Int16.ofInt i).toInt32 = z) (g : Go C R q Z EL n0 Q T pc' Ls (.int z :: st)) : Go C R q Z EL n0 Q T pc Ls st := by
  subst hz; obtain ⟨-, rfl⟩ := id hi; exact Go.of (fun t z => XS.sipush X.here X.exec rfl (X.dec hi) z) g
theorem On.lconst (X : On C R own b ml rt nm q Z a0 EL n0 vm T h k n) {i : Fin 2} {z : Int64} (hi : Ins b pc (.lconst i) 1 pc') (hz : Int64.ofNat i = z) (g : Go C R q Z EL n0 Q T pc' Ls (.long z :: st)) : Go C R q Z EL n0 Q T pc Ls st := by
  subst hz; obtain ⟨-, rfl⟩ := id hi; exact Go.of (fun t z => XS.lconst X.here X.exec rfl (X.dec hi) z) g
theorem On.aconst_null (X : On C R own b ml rt nm q Z a0 EL n0 vm T h k n) (hi : Ins b pc .aconst_null 1 pc') (g : Go C R q Z EL n0 Q T pc' Ls (.null :: st)) : Go C R q Z EL n0 Q T pc Ls st := by
  obtain ⟨-, rfl⟩ := id hi; exact Go.of (fun t z => XS.aconstNull X.here X.exec rfl (X.dec hi) z) g
theorem On.istore_n (X : On C R own b ml rt nm q Z a0 EL n0 vm T h k n) {j : Fin 4} {x : Int32} (hi : Ins b pc (.istore_n j) 1 pc') (hl : storeLocals Ls j.val (.int x) = some Ls') (g : Go C R q Z EL n0 Q T pc' Ls' st) : Go C R q Z EL n0 Q T pc Ls (.int x :: st) := by
  obtain ⟨-, rfl⟩ := id hi; exact Go.of (fun t z => XS.istoreN X.here X.exec rfl (X.dec hi) rfl hl z) g
theorem On.istore (X : On C R own b ml rt nm q Z a0 EL n0 vm T h k n) {j : Nat} {x : Int32} (hi : Ins b pc (.istore j) 2 pc') (hl : storeLocals Ls j (.int x) = some Ls') (g : Go C R q Z EL n0 Q T pc' Ls' st) : Go C R q Z EL n0 Q T pc Ls (.int x :: st) := by
  obtain ⟨-, rfl⟩ := id hi; exact Go.of (fun t z => XS.istore X.here X.exec rfl (X.dec hi) rfl hl z) g
theorem On.lstore_n (X : On C R own b ml rt nm q Z a0 EL n0 vm T h k n) {j : Fin 4} {x : Int64} (hi : Ins b pc (.lstore_n j) 1 pc') (hl : storeLocals Ls j.val (.long x) = some Ls') (g : Go C R q Z EL n0 Q T pc' Ls' st) : Go C R q Z EL n0 Q T pc Ls (.long x :: st) := by
  obtain ⟨-, rfl⟩ := id hi; exact Go.of (fun t z => XS.lstoreN X.here X.exec rfl (X.dec hi) rfl hl z) g
theorem On.astore_n (X : On C R own b ml rt nm q Z a0 EL n0 vm T h k n) {j : Fin 4} {x : Value} (hi : Ins b pc (.astore_n j) 1 pc') (hv : x.isRef = true) (hl : storeLocals Ls j.val x = some Ls') (g : Go C R q Z EL n0 Q T pc' Ls' st) : Go C R q Z EL n0 Q T pc Ls (x :: st) := by
  obtain ⟨-, rfl⟩ := id hi; exact Go.of (fun t z => XS.astoreN X.here X.exec rfl (X.dec hi) rfl hv hl z) g
theorem On.astore (X : On C R own b ml rt nm q Z a0 EL n0 vm T h k n) {j : Nat} {x : Value} (hi : Ins b pc (.astore j) 2 pc') (hv : x.isRef = true) (hl : storeLocals Ls j x = some Ls') (g : Go C R q Z EL n0 Q T pc' Ls' st) : Go C R q Z EL n0 Q T pc Ls (x :: st) := by
  obtain ⟨-, rfl⟩ := id hi; exact Go.of (fun t z => XS.astore X.here X.exec rfl (X.dec hi) rfl hv hl z) g
theorem On.iinc (X : On C R own b ml rt nm q Z a0 EL n0 vm T h k n) {j : Nat} {cst : Int} {x y : Int32} (hi : Ins b pc (.iinc j cst) 3 pc') (hl : Ls[j]? = some (.val (.int x))) (hz : x + Int32.ofInt cst = y) (hl' : storeLocals Ls j (.int y) = some Ls') (g : Go C R q Z EL n0 Q T pc' Ls' st) : Go C R q Z EL n0 Q T pc Ls st := by
  subst hz; obtain ⟨-, rfl⟩ := id hi; exact Go.of (fun t z => XS.iinc X.here X.exec rfl (X.dec hi) hl hl' z) g
theorem On.dup (X : On C R own b ml rt nm q Z a0 EL n0 vm T h k n) {x : Value} (hi : Ins b pc .dup 1 pc') (hc : x.category = 1) (g : Go C R q Z EL n0 Q T pc' Ls (x :: x :: st)) : Go C R q Z EL n0 Q T pc Ls (x :: st) := by
  obtain ⟨-, rfl⟩ := id hi; exact Go.of (fun t z => XS.dup X.here X.exec rfl (X.dec hi) rfl hc z) g
theorem On.dup_x1 (X : On C R own b ml rt nm q Z a0 EL n0 vm T h k n) {x y : Value} (hi : Ins b pc .dup_x1 1 pc') (hc : x.category = 1) (hc' : y.category = 1) (g : Go C R q Z EL n0 Q T pc' Ls (x :: y :: x :: st)) : Go C R q Z EL n0 Q T pc Ls (x :: y :: st) := by
  obtain ⟨-, rfl⟩ := id hi; exact Go.of (fun t z => XS.dupX1 X.here X.exec rfl (X.dec hi) rfl hc hc' z) g
theorem On.dup2 (X : On C R own b ml rt nm q Z a0 EL n0 vm T h k n) {x y : Value} (hi : Ins b pc .dup2 1 pc') (hc : x.category = 1) (hc' : y.category = 1) (g : Go C R q Z EL n0 Q T pc' Ls (x :: y :: x :: y :: st)) : Go C R q Z EL n0 Q T pc Ls (x :: y :: st) := by
  obtain ⟨-, rfl⟩ := id hi; exact Go.of (fun t z => XT.dup2 X.here X.exec rfl (X.dec hi) rfl hc hc' z) g
theorem On.pop (X : On C R own b ml rt nm q Z a0 EL n0 vm T h k n) {x : Value} (hi : Ins b pc .pop 1 pc') (hc : x.category = 1) (g : Go C R q Z EL n0 Q T pc' Ls st) : Go C R q Z EL n0 Q T pc Ls (x :: st) := by
  obtain ⟨-, rfl⟩ := id hi; exact Go.of (fun t z => XS.pop X.here X.exec rfl (X.dec hi) rfl hc z) g
theorem On.iadd (X : On C R own b ml rt nm q Z a0 EL n0 vm T h k n) {x y z : Int32} (hi : Ins b pc .iadd 1 pc') (hz : x + y = z) (g : Go C R q Z EL n0 Q T pc' Ls (.int z :: st)) : Go C R q Z EL n0 Q T pc Ls (.int y :: .int x :: st) := by
  subst hz; obtain ⟨-, rfl⟩ := id hi; exact Go.of (fun t z => XS.iadd X.here X.exec rfl (X.dec hi) rfl z) g
theorem On.isub (X : On C R own b ml rt nm q Z a0 EL n0 vm T h k n) {x y z : Int32} (hi : Ins b pc .isub 1 pc') (hz : x - y = z) (g : Go C R q Z EL n0 Q T pc' Ls (.int z :: st)) : Go C R q Z EL n0 Q T pc Ls (.int y :: .int x :: st) := by
  subst hz; obtain ⟨-, rfl⟩ := id hi; exact Go.of (fun t z => XS.isub X.here X.exec rfl (X.dec hi) rfl z) g
theorem On.imul (X : On C R own b ml rt nm q Z a0 EL n0 vm T h k n) {x y z : Int32} (hi : Ins b pc .imul 1 pc') (hz : x * y = z) (g : Go C R q Z EL n0 Q T pc' Ls (.int z :: st)) : Go C R q Z EL n0 Q T pc Ls (.int y :: .int x :: st) := by
  subst hz; obtain ⟨-, rfl⟩ := id hi; exact Go.of (fun t z => XS.imul X.here X.exec rfl (X.dec hi) rfl z) g
theorem On.iand (X : On C R own b ml rt nm q Z a0 EL n0 vm T h k n) {x y z : Int32} (hi : Ins b pc .iand 1 pc') (hz : x &&& y = z) (g : Go C R q Z EL n0 Q T pc' Ls (.int z :: st)) : Go C R q Z EL n0 Q T pc Ls (.int y :: .int x :: st) := by
  subst hz; obtain ⟨-, rfl⟩ := id hi; exact Go.of (fun t z => XS.iand X.here X.exec rfl (X.dec hi) rfl z) g
theorem On.ior (X : On C R own b ml rt nm q Z a0 EL n0 vm T h k n) {x y z : Int32} (hi : Ins b pc .ior 1 pc') (hz : x ||| y = z) (g : Go C R q Z EL n0 Q T pc' Ls (.int z :: st)) : Go C R q Z EL n0 Q T pc Ls (.int y :: .int x :: st) := by
  subst hz; obtain ⟨-, rfl⟩ := id hi; exact Go.of (fun t z => XS.ior X.here X.exec rfl (X.dec hi) rfl z) g
theorem On.ixor (X : On C R own b ml rt nm q Z a0 EL n0 vm T h k n) {x y z : Int32} (hi : Ins b pc .ixor 1 pc') (hz : x ^^^ y = z) (g : Go C R q Z EL n0 Q T pc' Ls (.int z :: st)) : Go C R q Z EL n0 Q T pc Ls (.int y :: .int x :: st) := by
  subst hz; obtain ⟨-, rfl⟩ := id hi; exact Go.of (fun t z => XS.ixor X.here X.exec rfl (X.dec hi) rfl z) g
theorem On.ishl (X : On C R own b ml rt nm q Z a0 EL n0 vm T h k n) {x y z : Int32} (hi : Ins b pc .ishl 1 pc') (hz : x <<< (y &&& 31) = z) (g : Go C R q Z EL n0 Q T pc' Ls (.int z :: st)) : Go C R q Z EL n0 Q T pc Ls (.int y :: .int x :: st) := by
  subst hz; obtain ⟨-, rfl⟩ := id hi; exact Go.of (fun t z => XS.ishl X.here X.exec rfl (X.dec hi) rfl z) g
theorem On.ishr (X : On C R own b ml rt nm q Z a0 EL n0 vm T h k n) {x y z : Int32} (hi : Ins b pc .ishr 1 pc') (hz : x >>> (y &&& 31) = z) (g : Go C R q Z EL n0 Q T pc' Ls (.int z :: st)) : Go C R q Z EL n0 Q T pc Ls (.int y :: .int x :: st) := by
  subst hz; obtain ⟨-, rfl⟩ := id hi; exact Go.of (fun t z => XS.ishr X.here X.exec rfl (X.dec hi) rfl z) g
theorem On.iushr (X : On C R own b ml rt nm q Z a0 EL n0 vm T h k n) {x y z : Int32} (hi : Ins b pc .iushr 1 pc') (hz : (x.toUInt32 >>> (y &&& 31).toUInt32).toInt32 = z) (g : Go C R q Z EL n0 Q T pc' Ls (.int z :: st)) : Go C R q Z EL n0 Q T pc Ls (.int y :: .int x :: st) := by
  subst hz; obtain ⟨-, rfl⟩ := id hi; exact Go.of (fun t z => XS.iushr X.here X.exec rfl (X.dec hi) rfl z) g
theorem On.irem (X : On C R own b ml rt nm q Z a0 EL n0 vm T h k n) {x y z : Int32} (hi : Ins b pc .irem 1 pc') (hy : y ≠ 0) (hz : x % y = z) (g : Go C R q Z EL n0 Q T pc' Ls (.int z :: st)) : Go C R q Z EL n0 Q T pc Ls (.int y :: .int x :: st) := by
  subst hz; obtain ⟨-, rfl⟩ := id hi
  obtain ⟨⟨k0, locs, S, -⟩, -⟩ := id X
  exact Go.of (fun t z => iremM S X.exec rfl (X.dec hi) rfl hy z) g
theorem On.idiv (X : On C R own b ml rt nm q Z a0 EL n0 vm T h k n) {x y z : Int32} (hi : Ins b pc .idiv 1 pc') (hy : y ≠ 0) (hz : x / y = z) (g : Go C R q Z EL n0 Q T pc' Ls (.int z :: st)) : Go C R q Z EL n0 Q T pc Ls (.int y :: .int x :: st) := by
  subst hz; obtain ⟨-, rfl⟩ := id hi; exact Go.of (fun t z => XS.idiv X.here X.exec rfl (X.dec hi) rfl hy z) g
theorem On.i2c (X : On C R own b ml rt nm q Z a0 EL n0 vm T h k n) {x z : Int32} (hi : Ins b pc .i2c 1 pc') (hz : x.toUInt32.toUInt16.toUInt32.toInt32 = z) (g : Go C R q Z EL n0 Q T pc' Ls (.int z :: st)) : Go C R q Z EL n0 Q T pc Ls (.int x :: st) := by
  subst hz; obtain ⟨-, rfl⟩ := id hi; exact Go.of (fun t z => XS.i2c X.here X.exec rfl (X.dec hi) rfl z) g
theorem On.i2b (X : On C R own b ml rt nm q Z a0 EL n0 vm T h k n) {x z : Int32} (hi : Ins b pc .i2b 1 pc') (hz : x.toInt8.toInt32 = z) (g : Go C R q Z EL n0 Q T pc' Ls (.int z :: st)) : Go C R q Z EL n0 Q T pc Ls (.int x :: st) := by
  subst hz; obtain ⟨-, rfl⟩ := id hi; exact Go.of (fun t z => XS.i2b X.here X.exec rfl (X.dec hi) rfl z) g
theorem On.i2l (X : On C R own b ml rt nm q Z a0 EL n0 vm T h k n) {x : Int32} {z : Int64} (hi : Ins b pc .i2l 1 pc') (hz : x.toInt64 = z) (g : Go C R q Z EL n0 Q T pc' Ls (.long z :: st)) : Go C R q Z EL n0 Q T pc Ls (.int x :: st) := by
  subst hz; obtain ⟨-, rfl⟩ := id hi; exact Go.of (fun t z => XS.i2l X.here X.exec rfl (X.dec hi) rfl z) g
theorem On.l2i (X : On C R own b ml rt nm q Z a0 EL n0 vm T h k n) {x : Int64} {z : Int32} (hi : Ins b pc .l2i 1 pc') (hz : x.toInt32 = z) (g : Go C R q Z EL n0 Q T pc' Ls (.int z :: st)) : Go C R q Z EL n0 Q T pc Ls (.long x :: st) := by
  subst hz; obtain ⟨-, rfl⟩ := id hi; exact Go.of (fun t z => XS.l2i X.here X.exec rfl (X.dec hi) rfl z) g
theorem On.ladd (X : On C R own b ml rt nm q Z a0 EL n0 vm T h k n) {x y z : Int64} (hi : Ins b pc .ladd 1 pc') (hz : x + y = z) (g : Go C R q Z EL n0 Q T pc' Ls (.long z :: st)) : Go C R q Z EL n0 Q T pc Ls (.long y :: .long x :: st) := by
  subst hz; obtain ⟨-, rfl⟩ := id hi; exact Go.of (fun t z => XS.ladd X.here X.exec rfl (X.dec hi) rfl z) g
theorem On.lcmp (X : On C R own b ml rt nm q Z a0 EL n0 vm T h k n) {x y : Int64} {z : Int32} (hi : Ins b pc .lcmp 1 pc') (hz : lcmpW x y = z) (g : Go C R q Z EL n0 Q T pc' Ls (.int z :: st)) : Go C R q Z EL n0 Q T pc Ls (.long y :: .long x :: st) := by
  subst hz; obtain ⟨-, rfl⟩ := id hi; exact Go.of (fun t z => XS.lcmp X.here X.exec rfl (X.dec hi) rfl z) g
theorem On.goto (X : On C R own b ml rt nm q Z a0 EL n0 vm T h k n) {o : Int} (hi : Ins b pc (.goto o) 3 pc') (hj : Jmp pc o pt) (g : Go C R q Z EL n0 Q T pt Ls st) : Go C R q Z EL n0 Q T pc Ls st :=
  Go.of (fun t z => XS.goto X.here X.exec rfl rfl (X.dec hi) hj.1 hj.2 z) g
theorem On.ifY (X : On C R own b ml rt nm q Z a0 EL n0 vm T h k n) {cd : ClassFile.Cond} {o : Int} {x : Int32} (hi : Ins b pc (.ifCond cd o) 3 pc') (hj : Jmp pc o pt) (hc : ifCond.holds cd x = true) (g : Go C R q Z EL n0 Q T pt Ls st) : Go C R q Z EL n0 Q T pc Ls (.int x :: st) :=
  Go.of (fun t z => XS.ifYes X.here X.exec rfl rfl (X.dec hi) rfl hc hj.1 hj.2 z) g
theorem On.ifN (X : On C R own b ml rt nm q Z a0 EL n0 vm T h k n) {cd : ClassFile.Cond} {o : Int} {x : Int32} (hi : Ins b pc (.ifCond cd o) 3 pc') (hc : ifCond.holds cd x = false) (g : Go C R q Z EL n0 Q T pc' Ls st) : Go C R q Z EL n0 Q T pc Ls (.int x :: st) := by
  obtain ⟨-, rfl⟩ := id hi; exact Go.of (fun t z => XS.ifNo X.here X.exec rfl (X.dec hi) rfl hc z) g
theorem On.icY (X : On C R own b ml rt nm q Z a0 EL n0 vm T h k n) {cd : ClassFile.Cond} {o : Int} {x y : Int32} (hi : Ins b pc (.if_icmp cd o) 3 pc') (hj : Jmp pc o pt) (hc : if_icmp.holds cd x y = true) (g : Go C R q Z EL n0 Q T pt Ls st) : Go C R q Z EL n0 Q T pc Ls (.int y :: .int x :: st) :=
  Go.of (fun t z => XS.icmpYes X.here X.exec rfl rfl (X.dec hi) rfl hc hj.1 hj.2 z) g
theorem On.icN (X : On C R own b ml rt nm q Z a0 EL n0 vm T h k n) {cd : ClassFile.Cond} {o : Int} {x y : Int32} (hi : Ins b pc (.if_icmp cd o) 3 pc') (hc : if_icmp.holds cd x y = false) (g : Go C R q Z EL n0 Q T pc' Ls st) : Go C R q Z EL n0 Q T pc Ls (.int y :: .int x :: st) := by
  obtain ⟨-, rfl⟩ := id hi; exact Go.of (fun t z => XS.icmpNo X.here X.exec rfl (X.dec hi) rfl hc z) g
theorem On.nullY (X : On C R own b ml rt nm q Z a0 EL n0 vm T h k n) {o : Int} (hi : Ins b pc (.ifnull o) 3 pc') (hj : Jmp pc o pt) (g : Go C R q Z EL n0 Q T pt Ls st) : Go C R q Z EL n0 Q T pc Ls (.null :: st) :=
  Go.of (fun t z => XS.ifnullYes X.here X.exec rfl rfl (X.dec hi) rfl hj.1 hj.2 z) g
theorem On.nullN (X : On C R own b ml rt nm q Z a0 EL n0 vm T h k n) {o : Int} {a : Addr} (hi : Ins b pc (.ifnull o) 3 pc') (g : Go C R q Z EL n0 Q T pc' Ls st) : Go C R q Z EL n0 Q T pc Ls (.ref a :: st) := by
  obtain ⟨-, rfl⟩ := id hi; exact Go.of (fun t z => XS.ifnullNo X.here X.exec rfl (X.dec hi) rfl z) g
theorem On.nonnullY (X : On C R own b ml rt nm q Z a0 EL n0 vm T h k n) {o : Int} {a : Addr} (hi : Ins b pc (.ifnonnull o) 3 pc') (hj : Jmp pc o pt) (g : Go C R q Z EL n0 Q T pt Ls st) : Go C R q Z EL n0 Q T pc Ls (.ref a :: st) :=
  Go.of (fun t z => XS.ifnonnullYes X.here X.exec rfl rfl (X.dec hi) rfl hj.1 hj.2 z) g
theorem On.nonnullN (X : On C R own b ml rt nm q Z a0 EL n0 vm T h k n) {o : Int} (hi : Ins b pc (.ifnonnull o) 3 pc') (g : Go C R q Z EL n0 Q T pc' Ls st) : Go C R q Z EL n0 Q T pc Ls (.null :: st) := by
  obtain ⟨-, rfl⟩ := id hi; exact Go.of (fun t z => XS.ifnonnullNo X.here X.exec rfl (X.dec hi) rfl z) g
theorem On.acY (X : On C R own b ml rt nm q Z a0 EL n0 vm T h k n) {cd : ACond} {o : Int} {x y : Value} (hi : Ins b pc (.if_acmp cd o) 3 pc') (hj : Jmp pc o pt) (hx' : x.isRef = true) (hy' : y.isRef = true) (hc : XT.acmp cd x y = true) (g : Go C R q Z EL n0 Q T pt Ls st) : Go C R q Z EL n0 Q T pc Ls (y :: x :: st) :=
  Go.of (fun t z => XT.acmpYes X.here X.exec rfl rfl (X.dec hi) rfl hx' hy' hc hj.1 hj.2 z) g
theorem On.acN (X : On C R own b ml rt nm q Z a0 EL n0 vm T h k n) {cd : ACond} {o : Int} {x y : Value} (hi : Ins b pc (.if_acmp cd o) 3 pc') (hx' : x.isRef = true) (hy' : y.isRef = true) (hc : XT.acmp cd x y = false) (g : Go C R q Z EL n0 Q T pc' Ls st) : Go C R q Z EL n0 Q T pc Ls (y :: x :: st) := by
  obtain ⟨-, rfl⟩ := id hi; exact Go.of (fun t z => XT.acmpNo X.here X.exec rfl (X.dec hi) rfl hx' hy' hc z) g
end Laws
end Jvm.Own
namespace Jvm.Own
open Jvm Jvm.ClassFile Sem Op Lib Jvm.Free Jvm.Stand Jvm.LawKit Jvm.RoadKit Bundle
/-! ### steps that read or write the heap or the tables -/
section Heap
variable {C : Cx} {R : Room} {own : String} {b : ByteArray} {ml : Nat} {rt : Option FieldType} {nm : String} {q : Bool} {Z : State} {a0 : Array Value} {EL : List (String × Nat)} {n0 : Nat} {vm : Vm} {T : State} {h : Heap} {k n : Nat} {Q : Option Value → Heap → (Addr → Prop) → Prop} {pc pc' pt : Nat} {Ls Ls' : Array Slot} {st : List Value}
theorem On.getfield (X : On C R own b ml rt nm q Z a0 EL n0 vm T h k n) {R0 O f d : String} {ix : Nat} {a : Addr} {v : Value} (hi : Ins b pc (.getfield ix) 3 pc') (w : (Cond.fieldLink own ix R0 f d).before a0 Z = true) (via : Via Z R0 O f d) (F : Fld Z h a O f d v)
    (g : ∀ T', On C R own b ml rt nm q Z a0 EL n0 vm T' h k n → Go C R q Z EL n0 Q T' pc' Ls (v :: st)) : Go C R q Z EL n0 Q T pc Ls (.ref a :: st) := by
  obtain ⟨-, rfl⟩ := id hi
  obtain ⟨⟨k0, locs, S, N, hS, hk⟩, -⟩ := id X
  obtain ⟨T', S', e', st'⟩ := getF S X.exec X.zw X.owned (host := "") (Or.inl w) via X.eT F (g := mkF C.m pc Ls (.ref a :: st)) rfl rfl (X.dec hi)
  exact Go.of st' (g T' (X.put S' N hS hk e' (CHr.refl X.chv) X.old))
theorem On.getstatic (X : On C R own b ml rt nm q Z a0 EL n0 vm T h k n) {R0 O f d : String} {ix : Nat} {v : Value} (hi : Ins b pc (.getstatic ix) 3 pc') (w : (Cond.fieldLink own ix R0 f d).before a0 Z = true) (via : Via Z R0 O f d) (F : Sta Z h O f d v)
    (g : ∀ T', On C R own b ml rt nm q Z a0 EL n0 vm T' h k n → Go C R q Z EL n0 Q T' pc' Ls (v :: st)) : Go C R q Z EL n0 Q T pc Ls st := by
  obtain ⟨-, rfl⟩ := id hi
  obtain ⟨⟨k0, locs, S, N, hS, hk⟩, -⟩ := id X
  obtain ⟨T', S', e', st'⟩ := getS (host := "") S X.exec X.zw X.owned w via X.eT F (g := mkF C.m pc Ls st) rfl (X.dec hi)
  exact Go.of st' (g T' (X.put S' N hS hk e' (CHr.refl X.chv) X.old))
/-- Ext behind a write to a place that is new since -/
theorem ext_wr {h1 h2 h3 : Heap} {a : Addr} {sl : Nat} {v : Value} (E : Ext h1 h2) (W : Wr h2 h3 a sl v) (ha : h1.size ≤ a) : Ext h1 h3 :=
  ⟨Nat.le_trans E.1 (Nat.le_of_eq W.size.symm), fun x c hx => by
    obtain ⟨c', e1, -, -, -, e5, -⟩ := wr_at W (E.2 x c hx)
    rw [e1, e5 fun q => absurd (Array.getElem?_eq_some_iff.mp hx).1 (Nat.not_lt.mpr (q ▸ ha))]⟩
theorem ext_keep {h1 h2 h3 : Heap} {ws : List Addr} (E : Ext h1 h2) (K : Keep h2 h3 ws) (ha : ∀ x ∈ ws, h1.size ≤ x) : Ext h1 h3 :=
  ⟨Nat.le_trans E.1 K.1, fun x c hx => K.2.1 x c (E.2 x c hx) fun hm => absurd (Array.getElem?_eq_some_iff.mp hx).1 (Nat.not_lt.mpr (ha x hm))⟩
theorem ext_refl (h1 : Heap) : Ext h1 h1 := ⟨Nat.le_refl _, fun _ _ q => q⟩
theorem ext_trans {h1 h2 h3 : Heap} (E : Ext h1 h2) (E' : Ext h2 h3) : Ext h1 h3 := ⟨Nat.le_trans E.1 E'.1, fun x c q => E'.2 x c (E.2 x c q)⟩
theorem keep_ext {h1 h2 : Heap} (E : Ext h1 h2) : Keep h1 h2 [] := (Keep.refl h1 []).ext E
theorem ext_of_keep {h1 h2 : Heap} (K : Keep h1 h2 []) : Ext h1 h2 := ⟨K.1, fun x c q => K.2.1 x c q (fun z => nomatch z)⟩
/-- the general put: the field's laid word either way -/
theorem On.putfield (X : On C R own b ml rt nm q Z a0 EL n0 vm T h k n) {R0 O f d Cl : String} {ix kk : Nat} {a : Addr} {v old : Value} {ty : FieldType} (hi : Ins b pc (.putfield ix) 3 pc') (w : (Cond.fieldLink own ix R0 f d).before a0 Z = true) (via : Via Z R0 O f d) (F : Fld Z h a O f d old) (E : Exa Z h a Cl)
    (L : (Cond.lays Cl O f d).before a0 Z = true ∨ ((Cond.laysFinal Cl O f d).before a0 Z = true ∧ own = O ∧ nm = "<init>")) (wi : (Cond.instantiable Cl kk).before a0 Z = true) (hty : parseFieldDescriptor d = some ty) (hn : narrow ty v = v) (hf : fits ty v = true) (ga : n0 ≤ a) (Sf : Safe Z EL vm h a)
    (g : ∀ T' h', On C R own b ml rt nm q Z a0 EL n0 vm T' h' k n → Wr h h' a (RoadKit.slotOf Z O f d) v → Go C R q Z EL n0 Q T' pc' Ls st) : Go C R q Z EL n0 Q T pc Ls (v :: .ref a :: st) := by
  obtain ⟨-, rfl⟩ := id hi
  obtain ⟨⟨k0, locs, S, N, hS, hk⟩, -, -, -, -, -, hnm, -⟩ := id X
  obtain ⟨T', h', S', e', W', st'⟩ := putF S X.exec X.zw X.owned (host := "") (Or.inl w) via X.eT F E (L.imp id fun z => ⟨z.1, z.2.1, hnm.trans z.2.2⟩) wi hty hn hf (g := mkF C.m pc Ls (v :: .ref a :: st)) rfl rfl (X.dec hi)
  exact Go.of st' (g T' h' (X.put S' (Fr.snoc S' N ga) hS hk e' (CHr.wr W' Sf X.chv) (X.old.wr W' ga)) W')
theorem On.new (X : On C R own b ml rt nm q Z a0 EL n0 vm T h k n) {Cl : String} {ix nf k' n' : Nat} (hi : Ins b pc (.new ix) 3 pc') (w : (Cond.classLink own ix Cl).before a0 Z = true) (wi : (Cond.instantiable Cl nf).before a0 Z = true) (wz : (Cond.initialized Cl).before a0 Z = true)
    (hk' : k + 1 = k') (hn' : n + nf = n') (hc : k' ≤ R.cells) (hl : n' ≤ R.slots)
    (g : ∀ T' h' a, On C R own b ml rt nm q Z a0 EL n0 vm T' h' k' n' → Ext h h' → h.size = a → n0 ≤ a → Exa Z h' a Cl → (∀ {O nm d : String} {ty : FieldType}, Laid Z a0 Cl O nm d → parseFieldDescriptor d = some ty → Fld Z h' a O nm d (defaultValue ty)) → Unt h' a → Safe Z EL vm h' a →
      Go C R q Z EL n0 Q T' pc' Ls (.ref a :: st)) : Go C R q Z EL n0 Q T pc Ls st := by
  subst hk' hn'
  obtain ⟨-, rfl⟩ := id hi
  obtain ⟨⟨k0, locs, S, N, hS, hk⟩, -⟩ := id X
  obtain ⟨T', h', S', e', E', A', D', U', st'⟩ := newO S X.exec X.zw X.owned w wi wz X.eT (g := mkF C.m pc Ls st) rfl (X.dec hi) hc hl
  exact Go.of st' (g T' h' h.size (X.put S' N hS hk e' (CHr.ext E' X.chv) (X.old.ext E')) E' rfl X.n0le A' D' U' ((Safe.new (Nat.le_refl _)).ext E' X.chv))
theorem On.newarray (X : On C R own b ml rt nm q Z a0 EL n0 vm T h k n) {aty : ArrayType} {ty : FieldType} {z : Int32} {cap k' n' : Nat} (hi : Ins b pc (.newarray aty) 2 pc') (hty : newarray.typeOf aty = ty) (w : (Cond.arrayClass ty).before a0 Z = true)
    (hz : ¬ z < 0) (hcap : z.toNatClampNeg ≤ cap) (hbig : cap * 8 ≤ 536870912) (hk' : k + 1 = k') (hn' : n + cap = n') (hc : k' ≤ R.cells) (hl : n' ≤ R.slots)
    (g : ∀ T' h' a kA, On C R own b ml rt nm q Z a0 EL n0 vm T' h' k' n' → Ext h h' → h.size = a → n0 ≤ a → Arv Z h' a kA ty z [] (defaultValue ty) → Safe Z EL vm h' a → Go C R q Z EL n0 Q T' pc' Ls (.ref a :: st)) : Go C R q Z EL n0 Q T pc Ls (.int z :: st) := by
  subst hk' hn' hty
  obtain ⟨-, rfl⟩ := id hi
  obtain ⟨⟨k0, locs, S, N, hS, hk⟩, -⟩ := id X
  obtain ⟨T', h', kA, S', e', E', A', st'⟩ := newP S X.exec X.zw w X.eT (g := mkF C.m pc Ls (.int z :: st)) rfl (X.dec hi) rfl hz hcap hbig hc hl
  exact Go.of st' (g T' h' h.size kA (X.put S' N hS hk e' (CHr.ext E' X.chv) (X.old.ext E')) E' rfl X.n0le (Arv.new A' hz) ((Safe.new (Nat.le_refl _)).ext E' X.chv))
theorem On.anewarray (X : On C R own b ml rt nm q Z a0 EL n0 vm T h k n) {Cl ad : String} {ix : Nat} {z : Int32} {cap k' n' : Nat} (hi : Ins b pc (.anewarray ix) 3 pc') (w1 : (Cond.classLink own ix Cl).before a0 Z = true) (w2 : (Cond.arrayOver (.object Cl)).before a0 Z = true)
    (hz : ¬ z < 0) (hcap : z.toNatClampNeg ≤ cap) (hbig : cap * 8 ≤ 536870912) (hk' : k + 1 = k') (hn' : n + cap = n') (hc : k' ≤ R.cells) (hl : n' ≤ R.slots) (had : "[" ++ (FieldType.object Cl).toString = ad)
    (g : ∀ T' h' a kA, On C R own b ml rt nm q Z a0 EL n0 vm T' h' k' n' → Ext h h' → h.size = a → n0 ≤ a → Arv Z h' a kA (.object Cl) z [] .null → Exa Z h' a ad → Ovr Z kA Cl → Go C R q Z EL n0 Q T' pc' Ls (.ref a :: st)) : Go C R q Z EL n0 Q T pc Ls (.int z :: st) := by
  subst hk' hn'
  obtain ⟨-, rfl⟩ := id hi
  obtain ⟨⟨k0, locs, S, N, hS, hk⟩, -⟩ := id X
  obtain ⟨T', h', kA, S', e', E', A', F', O', st'⟩ := newRE S X.exec X.zw X.owned w1 w2 X.eT (g := mkF C.m pc Ls (.int z :: st)) rfl (X.dec hi) rfl hz hcap hbig hc hl had
  exact Go.of st' (g T' h' h.size kA (X.put S' N hS hk e' (CHr.ext E' X.chv) (X.old.ext E')) E' rfl X.n0le (Arv.new A' hz) F' O')
theorem On.castore (X : On C R own b ml rt nm q Z a0 EL n0 vm T h k n) {a : Addr} {kA : ClassId} {z j x y : Int32} {vs : List Value} {dv : Value} {i : Nat} (hi : Ins b pc .castore 1 pc') (V : Arv Z h a kA .char z vs dv) (hin : ¬ j < 0 ∧ j < z) (hj : j.toNatClampNeg = i) (hl : i < vs.length) (hy : nar .char x = y) (ga : n0 ≤ a)
    (g : ∀ T' h', On C R own b ml rt nm q Z a0 EL n0 vm T' h' k n → Wr h h' a i (.int y) → Arv Z h' a kA .char z (vs.set i (.int y)) dv → Go C R q Z EL n0 Q T' pc' Ls st) : Go C R q Z EL n0 Q T pc Ls (.int x :: .int j :: .ref a :: st) := by
  subst hy hj
  obtain ⟨-, rfl⟩ := id hi
  obtain ⟨⟨k0, locs, S, N, hS, hk⟩, -⟩ := id X
  have Sf : Safe Z EL vm h a := Safe.arv X.zw.alike V (by simp)
  obtain ⟨cl, A, V2, V3, V4, V5, V6⟩ := V
  obtain ⟨T', h', S', e', W', st'⟩ := stC S X.exec X.zw X.eT A (j := j) (inb_of V3 hin) (g := mkF C.m pc Ls (.int x :: .int j :: .ref a :: st)) rfl rfl (X.dec hi)
  exact Go.of st' (g T' h' (X.put S' (Fr.snoc S' N ga) hS hk e' (CHr.wr W' Sf X.chv) (X.old.wr W' ga)) W' (Arv.set A V2 V3 V4 V5 V6 (fits_nar_char _) W' _ rfl hl))
theorem On.bastore (X : On C R own b ml rt nm q Z a0 EL n0 vm T h k n) {a : Addr} {kA : ClassId} {z j x y : Int32} {vs : List Value} {dv : Value} {i : Nat} (hi : Ins b pc .bastore 1 pc') (V : Arv Z h a kA .byte z vs dv) (hin : ¬ j < 0 ∧ j < z) (hj : j.toNatClampNeg = i) (hl : i < vs.length) (hy : nar .byte x = y) (ga : n0 ≤ a) (Sf : Safe Z EL vm h a)
    (g : ∀ T' h', On C R own b ml rt nm q Z a0 EL n0 vm T' h' k n → Wr h h' a i (.int y) → Arv Z h' a kA .byte z (vs.set i (.int y)) dv → Go C R q Z EL n0 Q T' pc' Ls st) : Go C R q Z EL n0 Q T pc Ls (.int x :: .int j :: .ref a :: st) := by
  subst hy hj
  obtain ⟨-, rfl⟩ := id hi
  obtain ⟨⟨k0, locs, S, N, hS, hk⟩, -⟩ := id X
  obtain ⟨cl, A, V2, V3, V4, V5, V6⟩ := V
  obtain ⟨T', h', S', e', W', st'⟩ := stB S X.exec X.zw X.eT A (j := j) (inb_of V3 hin) (g := mkF C.m pc Ls (.int x :: .int j :: .ref a :: st)) rfl rfl (X.dec hi)
  exact Go.of st' (g T' h' (X.put S' (Fr.snoc S' N ga) hS hk e' (CHr.wr W' Sf X.chv) (X.old.wr W' ga)) W' (Arv.set A V2 V3 V4 V5 V6 (fits_nar_byte _) W' _ rfl hl))
theorem On.aastore (X : On C R own b ml rt nm q Z a0 EL n0 vm T h k n) {a : Addr} {kA : ClassId} {ty : FieldType} {z j : Int32} {v : Value} {vs : List Value} {dv : Value} {i : Nat} (hi : Ins b pc .aastore 1 pc') (V : Arv Z h a kA ty z vs dv) (hty : ty.isReference = true) (hin : ¬ j < 0 ∧ j < z) (hj : j.toNatClampNeg = i) (hl : i < vs.length) (hf : fits ty v = true) (F : Sto Z h a v) (ga : n0 ≤ a)
    (g : ∀ T' h', On C R own b ml rt nm q Z a0 EL n0 vm T' h' k n → Wr h h' a i v → Arv Z h' a kA ty z (vs.set i v) dv → Go C R q Z EL n0 Q T' pc' Ls st) : Go C R q Z EL n0 Q T pc Ls (v :: .int j :: .ref a :: st) := by
  subst hj
  obtain ⟨-, rfl⟩ := id hi
  obtain ⟨⟨k0, locs, S, N, hS, hk⟩, -⟩ := id X
  have Sf : Safe Z EL vm h a := Safe.arv X.zw.alike V (fun z => by subst z; simp [FieldType.isReference] at hty)
  obtain ⟨cl, A, V2, V3, V4, V5, V6⟩ := V
  obtain ⟨T', h', S', e', W', st'⟩ := stR S X.exec X.zw X.eT A (j := j) (inb_of V3 hin) hty F (g := mkF C.m pc Ls (v :: .int j :: .ref a :: st)) rfl rfl (X.dec hi)
  exact Go.of st' (g T' h' (X.put S' (Fr.snoc S' N ga) hS hk e' (CHr.wr W' Sf X.chv) (X.old.wr W' ga)) W' (Arv.set A V2 V3 V4 V5 V6 hf W' _ rfl hl))
theorem On.arraylength (X : On C R own b ml rt nm q Z a0 EL n0 vm T h k n) {a : Addr} {kA : ClassId} {ty : FieldType} {z : Int32} {vs : List Value} {dv : Value} (hi : Ins b pc .arraylength 1 pc') (V : Arv Z h a kA ty z vs dv)
    (g : Go C R q Z EL n0 Q T pc' Ls (.int z :: st)) : Go C R q Z EL n0 Q T pc Ls (.ref a :: st) := by
  obtain ⟨-, rfl⟩ := id hi
  obtain ⟨⟨k0, locs, S, N, hS, hk⟩, -⟩ := id X
  obtain ⟨cl, A, V2, V3, V4, V5, V6⟩ := V
  refine Go.of (fun t u => S.arraylength X.exec (by rw [X.eT]; exact A.1) (State.isArrayOf_alike X.zw.alike A.2.1) (g := mkF C.m pc Ls (.ref a :: st)) rfl rfl (X.dec hi) t ?_) g
  rw [len_of V3 V4]; exact u
theorem On.caload (X : On C R own b ml rt nm q Z a0 EL n0 vm T h k n) {a : Addr} {kA : ClassId} {z j : Int32} {vs : List Value} {dv v : Value} (hi : Ins b pc .caload 1 pc') (V : Arv Z h a kA .char z vs dv) (hin : ¬ j < 0 ∧ j < z) (hv : vs.getD j.toNatClampNeg dv = v)
    (g : Go C R q Z EL n0 Q T pc' Ls (v :: st)) : Go C R q Z EL n0 Q T pc Ls (.int j :: .ref a :: st) := by
  obtain ⟨-, rfl⟩ := id hi
  obtain ⟨⟨k0, locs, S, N, hS, hk⟩, -⟩ := id X
  obtain ⟨cl, A, V2, V3, V4, V5, V6⟩ := V
  exact Go.of (fun t u => S.caload X.exec (by rw [X.eT]; exact A.1) (State.isArrayOf_alike X.zw.alike A.2.1) A.2.2 (inb_of V3 hin) (V5.at (inb_of V3 hin) hv) (g := mkF C.m pc Ls (.int j :: .ref a :: st)) rfl rfl (X.dec hi) t u) g
theorem On.baload (X : On C R own b ml rt nm q Z a0 EL n0 vm T h k n) {a : Addr} {kA : ClassId} {z j : Int32} {vs : List Value} {dv v : Value} (hi : Ins b pc .baload 1 pc') (V : Arv Z h a kA .byte z vs dv) (hin : ¬ j < 0 ∧ j < z) (hv : vs.getD j.toNatClampNeg dv = v)
    (g : Go C R q Z EL n0 Q T pc' Ls (v :: st)) : Go C R q Z EL n0 Q T pc Ls (.int j :: .ref a :: st) := by
  obtain ⟨-, rfl⟩ := id hi
  obtain ⟨⟨k0, locs, S, N, hS, hk⟩, -⟩ := id X
  obtain ⟨cl, A, V2, V3, V4, V5, V6⟩ := V
  exact Go.of (fun t u => S.baloadBytes X.exec (by rw [X.eT]; exact A.1) (State.isArrayOf_alike X.zw.alike A.2.1) A.2.2 (inb_of V3 hin) (V5.at (inb_of V3 hin) hv) (g := mkF C.m pc Ls (.int j :: .ref a :: st)) rfl rfl (X.dec hi) t u) g
theorem On.aaload (X : On C R own b ml rt nm q Z a0 EL n0 vm T h k n) {a : Addr} {kA : ClassId} {ty : FieldType} {z j : Int32} {vs : List Value} {dv v : Value} (hi : Ins b pc .aaload 1 pc') (V : Arv Z h a kA ty z vs dv) (hty : ty.isReference = true) (hin : ¬ j < 0 ∧ j < z) (hv : vs.getD j.toNatClampNeg dv = v)
    (g : Go C R q Z EL n0 Q T pc' Ls (v :: st)) : Go C R q Z EL n0 Q T pc Ls (.int j :: .ref a :: st) := by
  obtain ⟨-, rfl⟩ := id hi
  obtain ⟨⟨k0, locs, S, N, hS, hk⟩, -⟩ := id X
  obtain ⟨cl, A, V2, V3, V4, V5, V6⟩ := V
  exact Go.of (fun t u => S.aaload X.exec (by rw [X.eT]; exact A.1) (State.isArrayOf_alike X.zw.alike A.2.1) hty A.2.2 (inb_of V3 hin) (V5.at (inb_of V3 hin) hv) (g := mkF C.m pc Ls (.int j :: .ref a :: st)) rfl rfl (X.dec hi) t u) g
theorem On.ldcI (X : On C R own b ml rt nm q Z a0 EL n0 vm T h k n) {ix : Nat} {v : Int32} (hi : Ins b pc (.ldc ix) 2 pc') (w : (Cond.constant own ix v).before a0 Z = true) (g : Go C R q Z EL n0 Q T pc' Ls (.int v :: st)) : Go C R q Z EL n0 Q T pc Ls st := by
  obtain ⟨-, rfl⟩ := id hi
  obtain ⟨⟨k0, locs, S, N, hS, hk⟩, -⟩ := id X
  exact Go.of (fun t u => S.ldcI X.exec X.owned (mv (s := C.s.setVm vm) X.zw w) (g := mkF C.m pc Ls st) rfl (X.dec hi) u) g
theorem On.ldc2J (X : On C R own b ml rt nm q Z a0 EL n0 vm T h k n) {ix : Nat} {v : Int64} (hi : Ins b pc (.ldc2_w ix) 3 pc') (w : (Cond.constantLong own ix v).before a0 Z = true) (g : Go C R q Z EL n0 Q T pc' Ls (.long v :: st)) : Go C R q Z EL n0 Q T pc Ls st := by
  obtain ⟨-, rfl⟩ := id hi
  obtain ⟨⟨k0, locs, S, N, hS, hk⟩, -⟩ := id X
  exact Go.of (fun t u => S.ldc2J X.exec X.owned (mv (s := C.s.setVm vm) X.zw w) (g := mkF C.m pc Ls st) rfl (X.dec hi) u) g
theorem On.checkcast (X : On C R own b ml rt nm q Z a0 EL n0 vm T h k n) {K : String} {ix : Nat} {a : Addr} (hi : Ins b pc (.checkcast ix) 3 pc') (w : (Cond.classLink own ix K).before a0 Z = true) (F : RoadKit.Ins Z h a K true)
    (g : ∀ T', On C R own b ml rt nm q Z a0 EL n0 vm T' h k n → Go C R q Z EL n0 Q T' pc' Ls (.ref a :: st)) : Go C R q Z EL n0 Q T pc Ls (.ref a :: st) := by
  obtain ⟨-, rfl⟩ := id hi
  obtain ⟨⟨k0, locs, S, N, hS, hk⟩, -⟩ := id X
  obtain ⟨T', S', e', st'⟩ := castY S X.exec X.zw X.owned w X.eT F (g := mkF C.m pc Ls (.ref a :: st)) rfl rfl (X.dec hi)
  exact Go.of st' (g T' (X.put S' N hS hk e' (CHr.refl X.chv) X.old))
theorem On.instY (X : On C R own b ml rt nm q Z a0 EL n0 vm T h k n) {K : String} {ix : Nat} {a : Addr} (hi : Ins b pc (.instanceof ix) 3 pc') (w : (Cond.classLink own ix K).before a0 Z = true) (F : RoadKit.Ins Z h a K true)
    (g : ∀ T', On C R own b ml rt nm q Z a0 EL n0 vm T' h k n → Go C R q Z EL n0 Q T' pc' Ls (.int 1 :: st)) : Go C R q Z EL n0 Q T pc Ls (.ref a :: st) := by
  obtain ⟨-, rfl⟩ := id hi
  obtain ⟨⟨k0, locs, S, N, hS, hk⟩, -⟩ := id X
  obtain ⟨T', S', e', st'⟩ := RoadKit.instY S X.exec X.zw X.owned w X.eT F (g := mkF C.m pc Ls (.ref a :: st)) rfl rfl (X.dec hi)
  exact Go.of st' (g T' (X.put S' N hS hk e' (CHr.refl X.chv) X.old))
theorem On.instNo (X : On C R own b ml rt nm q Z a0 EL n0 vm T h k n) {K Cl : String} {ix : Nat} {a : Addr} (hi : Ins b pc (.instanceof ix) 3 pc') (w : (Cond.classLink own ix K).before a0 Z = true) (E : Exa Z h a Cl) (F : ∃ c t, Z.vm.findClass Cl = some c ∧ Z.vm.findClass K = some t ∧ Z.vm.assignable c t = false)
    (g : ∀ T', On C R own b ml rt nm q Z a0 EL n0 vm T' h k n → Go C R q Z EL n0 Q T' pc' Ls (.int 0 :: st)) : Go C R q Z EL n0 Q T pc Ls (.ref a :: st) := by
  obtain ⟨-, rfl⟩ := id hi
  obtain ⟨⟨k0, locs, S, N, hS, hk⟩, -⟩ := id X
  obtain ⟨T', S', e', st'⟩ := RoadKit.instNo S X.exec X.zw X.owned w X.eT E F (g := mkF C.m pc Ls (.ref a :: st)) rfl rfl (X.dec hi)
  exact Go.of st' (g T' (X.put S' N hS hk e' (CHr.refl X.chv) X.old))
/-- Object.<init> -/
theorem On.initO (X : On C R own b ml rt nm q Z a0 EL n0 vm T h k n) {ix W : Nat} {a : Addr} (hi : Ins b pc (.invokespecial ix) 3 pc') (w1 : (Cond.methodLink own ix Lib.objectInit).before a0 Z = true) (w2 : (Cond.instanceMethod Lib.objectInit).before a0 Z = true) (w3 : (Cond.code Lib.objectInit ⟨#[0xb1]⟩ 1 none).before a0 Z = true)
    (hsz : Ls.size = ml) (hf : 1 ≤ R.frames) (hW : 0 + (st.map fun v => v.category).sum = W) (hl : W + 12 ≤ R.locals)
    (g : ∀ T', On C R own b ml rt nm q Z a0 EL n0 vm T' h k n → Go C R q Z EL n0 Q T' pc' Ls st) : Go C R q Z EL n0 Q T pc Ls (.ref a :: st) := by
  obtain ⟨-, rfl⟩ := id hi
  obtain ⟨⟨k0, locs, S, N, hS, hk⟩, -, -, -, hml, -⟩ := id X
  obtain ⟨T', S', e', st'⟩ := RoadKit.initO S X.exec X.zw X.owned w1 w2 w3 X.eT (g := mkF C.m pc Ls (.ref a :: st)) rfl (hsz.trans hml.symm) rfl (X.dec hi) hf (W := W) (Nat.le_of_eq hW) hl
  exact Go.of st' (g T' (X.put S' N hS hk e' (CHr.refl X.chv) X.old))
/-! ### the end -/
theorem On.leave (X : On C R own b ml rt nm q Z a0 EL n0 vm T h k n) {v : Option Value} (hv : rt = none → v = none) (hk : k ≤ R.cells) (hn : n ≤ R.slots) (hQ : ∀ sf : Addr → Prop, (∀ x, Safe Z EL vm h x → sf x) → Q v h sf) {Ls : Array Slot} {st : List Value}
    (f : ∀ locs fs, Stand C.p C.l C.e R (C.s.setVm vm) C.m C.args C.below C.meth C.c T locs k n → (∀ (f : JFrame) (acts : List Action), f.method = C.m → f.locked = none → f.entered = [] → (doReturn C.e (T.setTop f) acts v).1 = T.setFrames fs) → Steps C.p.tables C.e C.below (T.setTop (mkF C.m pc Ls st)) (T.setFrames fs)) :
    Go C R q Z EL n0 Q T pc Ls st := by
  obtain ⟨⟨k0, locs, S, N, hS, hk0⟩, eT, e2, e3, e4, e5, e6, e7, e8, e9, e10, e11, e12, e13⟩ := X
  subst eT
  obtain ⟨fs, h1, h2, h3, h4⟩ := S.leaveW hS hk0 (v := v) (fun z => hv (e5.symm.trans z)) e7
  obtain ⟨r1, r2, r3, r4⟩ := h4
  have r5 : C.s.sameButNew { T.setFrames fs with vm := C.s.vm } locs R.cells R.slots := r4.mono hk hn
  have cA : CHr Z EL vm T.heap T.vm T.heap := CHv.at S e8 e10 e11.1
  have hQ2 : Q v T.heap (Safe Z EL T.vm T.heap) := hQ _ fun x hx => by
    by_cases hl : x < T.heap.size
    · exact cA.safe hl hx
    · exact Safe.new (Nat.le_of_not_lt hl)
  refine ⟨T.setFrames fs, .returned v, f locs fs S h1, h2, h3, v, locs, rfl, ⟨hQ2, N, e13⟩, e11.trans (show CHr Z EL vm T.heap T.vm T.heap from CHv.at S e8 e10 e11.1), ⟨r1, r2, r3, r5⟩, fun hq => ⟨r1, ?_, r5⟩⟩
  exact State.WarmedH.trans (t := C.s.setVm vm) (e12 hq) S.warmed
theorem On.ret (X : On C R own b ml rt nm q Z a0 EL n0 vm T h k n) (hi : Ins b pc .return_ 1 pc') (hr : rt = none) (hk : k ≤ R.cells) (hn : n ≤ R.slots) (hQ : ∀ sf : Addr → Prop, (∀ x, Safe Z EL vm h x → sf x) → Q none h sf) : Go C R q Z EL n0 Q T pc Ls [] :=
  X.leave (v := none) (fun _ => rfl) hk hn hQ fun locs fs S hl => S.returnOut X.exec (X.2.2.2.2.2.1.trans hr) (X.dec hi) hl
theorem On.ireturn (X : On C R own b ml rt nm q Z a0 EL n0 vm T h k n) {t : FieldType} {z : Int32} (hi : Ins b pc .ireturn 1 pc') (hr : rt = some t) (ht : t = .int ∨ t = .boolean ∨ t = .byte ∨ t = .char ∨ t = .short) (hz : narrow t (.int z) = .int z) (hk : k ≤ R.cells) (hn : n ≤ R.slots) (hQ : ∀ sf : Addr → Prop, (∀ x, Safe Z EL vm h x → sf x) → Q (some (.int z)) h sf) : Go C R q Z EL n0 Q T pc Ls (.int z :: st) :=
  X.leave (v := some (.int z)) (fun y => by rw [hr] at y; cases y) hk hn hQ fun locs fs S hl => retOut S X.exec (X.2.2.2.2.2.1.trans hr) hz (Or.inl ⟨rfl, ht, z, rfl⟩) (X.dec hi) hl
theorem On.lreturn (X : On C R own b ml rt nm q Z a0 EL n0 vm T h k n) {z : Int64} (hi : Ins b pc .lreturn 1 pc') (hr : rt = some .long) (hk : k ≤ R.cells) (hn : n ≤ R.slots) (hQ : ∀ sf : Addr → Prop, (∀ x, Safe Z EL vm h x → sf x) → Q (some (.long z)) h sf) : Go C R q Z EL n0 Q T pc Ls (.long z :: st) :=
  X.leave (v := some (.long z)) (fun y => by rw [hr] at y; cases y) hk hn hQ fun locs fs S hl => retOut S X.exec (X.2.2.2.2.2.1.trans hr) rfl (Or.inr (Or.inl ⟨rfl, rfl, z, rfl⟩)) (X.dec hi) hl
theorem On.areturn (X : On C R own b ml rt nm q Z a0 EL n0 vm T h k n) {t : FieldType} {v : Value} (hi : Ins b pc .areturn 1 pc') (hr : rt = some t) (ht : t.isReference = true) (hv : v.isRef = true) (hk : k ≤ R.cells) (hn : n ≤ R.slots) (hQ : ∀ sf : Addr → Prop, (∀ x, Safe Z EL vm h x → sf x) → Q (some v) h sf) : Go C R q Z EL n0 Q T pc Ls (v :: st) :=
  X.leave (v := some v) (fun y => by rw [hr] at y; cases y) hk hn hQ fun locs fs S hl => retOut S X.exec (X.2.2.2.2.2.1.trans hr) (by cases t <;> cases v <;> first | rfl | simp [FieldType.isReference] at ht | simp [Value.isRef] at hv) (Or.inr (Or.inr (Or.inr (Or.inr ⟨rfl, ht, hv⟩)))) (X.dec hi) hl
end Heap
end Jvm.Own
namespace Jvm.Own
open Jvm Jvm.ClassFile Sem Op Lib Jvm.Free Jvm.Stand Jvm.LawKit Jvm.RoadKit Bundle
/-! ### contracts and calls -/
/-- the contract of a body, at a heap and for arguments: ws are the String and byte[] cells that it may write -/
def Con (wl : List Jvm.Cond) (q : Bool) (l : Launch) (Z : State) (EL : List (String × Nat)) (n0 : Nat) (ws : List Addr) (y : MethodName) (bytes : ByteArray) (maxL : Nat) (ret : Option FieldType) (rm : Room) (as' : Array Value) (h : Heap) (Q : Option Value → Heap → (Addr → Prop) → Prop) : Prop :=
  MetFree l y (head1 (Cond.code y bytes maxL ret :: wl) rm) (fun a U => a = as' ∧ Z.Warmed39 U.vm ∧ U.heap = h ∧ CHv Z EL U.vm h ∧ ∀ x ∈ ws, Safe Z EL U.vm h x) (fun _ _ _ _ _ => True)
    (fun _ U o U' => ∃ v L, o = .returned v ∧ (Q v U'.heap (Safe Z EL U'.vm U'.heap) ∧ Fr n0 L ∧ Old Z n0 U'.heap) ∧ CHr Z EL U.vm U.heap U'.vm U'.heap ∧ EndQ q U o U' L rm.cells rm.slots)
theorem Con.intro {wl : List Jvm.Cond} {q : Bool} {l : Launch} {Z : State} {a0 : Array Value} {EL : List (String × Nat)} {n0 : Nat} {ws : List Addr} {y : MethodName} {bytes : ByteArray} {maxL : Nat} {ret : Option FieldType} {rm : Room} {as' : Array Value} {h : Heap} {Q : Option Value → Heap → (Addr → Prop) → Prop} {Ls : Array Slot}
    (hp : plainFor y = true) (hEL : EW Z a0 EL) (hO : Old Z n0 h) (ef : ∀ m, entryFrame m as' maxL = mkF m 0 Ls [])
    (body : ∀ (C : Cx) (vm : Vm) (T : State), C.l = l → On C rm y.cls bytes maxL ret y.name q Z a0 EL n0 vm T h 0 0 → (∀ x ∈ ws, Safe Z EL vm h x) → Go C rm q Z EL n0 Q T 0 Ls []) : Con wl q l Z EL n0 ws y bytes maxL ret rm as' h Q := by
  refine MetFree.of_bodySF hp hisR ?_
  intro p e s m args below meth c s₁ Bd hml0 hP hK
  obtain ⟨rfl, hZ, rfl, hC, hw⟩ := hP
  have e0 : s₁.heap = s.heap := by rw [Bd.state]; rfl
  have S0 : Stand p l e rm s m args below meth c s₁ [] 0 0 := Stand.of_body Bd
  have g := body (p, l, e, s, m, args, below, meth, c) s.vm s₁ rfl ⟨⟨0, [], S0, Fr.nil n0, (State.WarmedH.refl s).since 0, Nat.zero_le _⟩, e0, Bd.exec, Bd.bytes, hml0, Bd.returns, (name_of_methodNamed Bd.named Bd.method).1, Bd.notSynchronized, hZ, findClass_of_methodNamed Bd.named, hEL, CHr.refl hC, fun _ => State.WarmedH.refl s, hO⟩ hw
  obtain ⟨s2, o, g1, g2, g3, v, L, g4, g5, g6, g7⟩ := g
  refine ⟨s2, o, castTop (ef m) g1, g2, g3, v, L, g4, g5, g6, g7⟩
theorem backQ {q : Bool} {l : Launch} {Z : State} {a0 : Array Value} {EL : List (String × Nat)} {n0 : Nat} {ws : List Addr} {y : MethodName} {bytes : ByteArray} {maxL : Nat} {ret : Option FieldType} {rm R : Room} {as' : Array Value} {h : Heap} {Q : Option Value → Heap → (Addr → Prop) → Prop} {p : Program} {e : Env} {below : List Frame} {s : State} {args : Array Value} {vm : Vm} {len W : Nat}
    (hM : Con [] q l Z EL n0 ws y bytes maxL ret rm as' h Q) (hZ : Z.Warmed39 vm) (wc : (Cond.code y bytes maxL ret).before a0 Z = true) (wz : (Cond.initialized y.cls).before a0 Z = true) (hf : rm.frames + 1 ≤ R.frames) (hl : W + (maxL + 11) + rm.locals ≤ R.locals) (hEL : EW Z a0 EL) (H : CHv Z EL vm h) (hs : ∀ x ∈ ws, Safe Z EL vm h x ∧ x < h.size) :
    BackS l R p e below (s.setVm vm) args y len W (fun A a => a = as' ∧ A.U.heap = h ∧ A.cells + rm.cells ≤ R.cells ∧ A.slots + rm.slots ≤ R.slots)
      (fun A _ v B => ∃ L, (Q v B.U.heap (Safe Z EL B.U.vm B.U.heap) ∧ Fr n0 L ∧ Old Z n0 B.U.heap) ∧ B.locs = A.locs ++ L ∧ B.cells = A.cells + rm.cells ∧ B.slots = A.slots + rm.slots ∧ CHr Z EL vm h B.U.vm B.U.heap ∧ (q = true → (s.setVm vm).WarmedH B.U.vm)) :=
  BackS.of_freeW (bytes := bytes) (maxL := maxL) (ret := ret) (E := fun _ first o t L k n => k = rm.cells ∧ n = rm.slots ∧ (∃ v, o = .returned v ∧ (Q v t.heap (Safe Z EL t.vm t.heap) ∧ Fr n0 L ∧ Old Z n0 t.heap)) ∧ CHr Z EL first.vm first.heap t.vm t.heap ∧ (q = true → first.WarmedH t.vm)) hM hf hl
    (fun m meth c A a Y hp => have hU : Z.Warmed39 A.U.vm := wtrans (s := s.setVm vm) hZ Y.warmed
      ⟨by show (Cond.and _ .tt).before a A.U = true; rw [Cond.before_and, mv hU wc]; rfl, mv hU wc, mv hU wz, hp.2.2.1, hp.2.2.2⟩)
    (fun m meth c A a g mk Y hp => ⟨hp.1, wtrans (s := s.setVm vm) hZ Y.warmed, hp.2.1, (CHv.at Y hZ hEL H).1, fun x hx => (CHv.at Y hZ hEL H).safe (hs x hx).2 (hs x hx).1⟩) (fun _ _ _ _ _ _ _ _ _ => trivial)
    (fun _ _ _ _ ⟨v, L, h1, h2, h3, h4⟩ => ⟨L, _, _, h4.1, rfl, rfl, ⟨v, h1, h2⟩, h3, fun hq => (h4.2 hq).2.1⟩)
    (fun m meth c A a g mk v t L k n Y hp _ _ ⟨e1, e2, ⟨v', e3, e4⟩, e5, e6⟩ => by
      cases e3; subst e1 e2
      refine ⟨L, e4, rfl, rfl, rfl, (CHv.at Y hZ hEL H).trans ?_, fun hq => State.WarmedH.trans (t := A.U) Y.warmed (e6 hq)⟩
      rw [← hp.2.1]; exact e5)
section Calls
variable {C : Cx} {R : Room} {own : String} {b : ByteArray} {ml : Nat} {rt : Option FieldType} {nm : String} {q : Bool} {Z : State} {a0 : Array Value} {EL : List (String × Nat)} {n0 : Nat} {vm : Vm} {T : State} {h : Heap} {k n : Nat} {Q : Option Value → Heap → (Addr → Prop) → Prop} {pc pc' pt : Nat} {Ls Ls' : Array Slot} {st : List Value}
/-- behind a call: where the walk stands -/
theorem On.after (X : On C R own b ml rt nm q Z a0 EL n0 vm T h k n) {B : Pt} {rm : Room} {Q' : Prop} {k' n' k0 : Nat} {locs : List Loc} (N : Fr n0 locs) (hS : C.s.Since vm k0) (hk : k0 ≤ h.size)
    (S' : Stand C.p C.l C.e R ((C.s.setVm vm).setVm B.U.vm) C.m C.args C.below C.meth C.c B.U B.locs B.cells B.slots) (hs : (C.s.setVm vm).Since B.U.vm B.U.heap.size) (hg : T.heap.size ≤ B.U.heap.size)
    (hp : ∃ L, (Q' ∧ Fr n0 L ∧ Old Z n0 B.U.heap) ∧ B.locs = locs ++ L ∧ B.cells = k + rm.cells ∧ B.slots = n + rm.slots ∧ CHr Z EL vm h B.U.vm B.U.heap ∧ (q = true → (C.s.setVm vm).WarmedH B.U.vm)) (hk' : k + rm.cells = k') (hn' : n + rm.slots = n') :
    On C R own b ml rt nm q Z a0 EL n0 B.U.vm B.U B.U.heap k' n' ∧ CHr Z EL vm h B.U.vm B.U.heap ∧ Q' := by
  obtain ⟨-, e1, e2, e3, e4, e5, e6, e7, e8, e9, e10, e11, e12, e13⟩ := X
  obtain ⟨L, ⟨r1, r2, r8⟩, r3, r4, r5, r6, r7⟩ := hp
  subst hk' hn'
  rw [r3, r4, r5] at S'
  rw [e1] at hg
  exact ⟨⟨⟨_, _, S', N.app r2, hS.trans hs (Nat.le_trans hk hg), Nat.le_refl _⟩, rfl, e2, e3, e4, e5, e6, e7, State.Warmed39.trans (t := C.s.setVm vm) e8 hs.1, by rw [hs.1.alike.findClass]; exact e9, e10, e11.trans r6, fun hq => State.WarmedH.trans (t := C.s.setVm vm) (e12 hq) (r7 hq), r8⟩, r6, r1⟩
theorem On.callS (X : On C R own b ml rt nm q Z a0 EL n0 vm T h k n) {l : Launch} (hl0 : C.l = l) {ix W k' n' : Nat} {y : MethodName} {bytes : ByteArray} {maxL : Nat} {ret r : Option FieldType} {ps : List FieldType} {rm : Room} {Q' : Option Value → Heap → (Addr → Prop) → Prop} {ws : List Addr} {argsL sta : List Value} (hi : Ins b pc (.invokestatic ix) 3 pc')
    (hM : Con [] q l Z EL n0 ws y bytes maxL ret rm argsL.toArray h Q') (w1 : (Cond.methodLink own ix y).before a0 Z = true) (w2 : (Cond.static y).before a0 Z = true) (w3 : (Cond.initialized y.cls).before a0 Z = true) (w4 : (Cond.code y bytes maxL ret).before a0 Z = true) (hy : y.cls ≠ "java/lang/invoke/MethodHandle" ∧ y.cls ≠ "java/lang/invoke/VarHandle")
    (hs : ∀ x ∈ ws, Safe Z EL vm h x ∧ x < h.size) (hd : parseMethodDescriptor y.desc = some ⟨ps, r⟩) (hn : argsL.length = ps.length) (hst : sta = argsL.reverse ++ st) (hsz : Ls.size = ml) (hW : 0 + (st.map fun v => v.category).sum = W) (hf : rm.frames + 1 ≤ R.frames) (hl : W + (maxL + 11) + rm.locals ≤ R.locals)
    (hk' : k + rm.cells = k') (hn' : n + rm.slots = n') (hc : k' ≤ R.cells) (hsl : n' ≤ R.slots)
    (g : ∀ vm' T' h' v, On C R own b ml rt nm q Z a0 EL n0 vm' T' h' k' n' → CHr Z EL vm h vm' h' → Q' v h' (Safe Z EL vm' h') → Go C R q Z EL n0 Q T' pc' Ls (v.toList ++ st)) : Go C R q Z EL n0 Q T pc Ls sta := by
  subst hl0 hst
  obtain ⟨-, rfl⟩ := id hi
  obtain ⟨⟨k0, locs, S, N, hS, hk⟩, -, -, -, hml, -⟩ := id X
  obtain ⟨v, vm1, B, -, S', s1, s2, hp, stp⟩ := callSS S X.exec (y := y) X.owned (mv (s := C.s.setVm vm) X.zw w1) (mv (s := C.s.setVm vm) X.zw w2) (mv (s := C.s.setVm vm) X.zw w3) (mv (s := C.s.setVm vm) X.zw w4) hy (backQ (W := W) hM X.zw w4 w3 hf hl X.ew X.chv hs) (g := mkF C.m pc Ls (argsL.reverse ++ st)) rfl (hsz.trans hml.symm) (argsL := argsL) (rest := st) (lenOf hd hn) rfl (by show 2 * 0 + _ ≤ _; omega) (X.dec hi)
    (fun _ _ => ⟨rfl, X.eT, hk' ▸ hc, hn' ▸ hsl⟩)
  obtain ⟨X', r1, r2⟩ := X.after N hS hk S' s1 s2 hp hk' hn'
  exact Go.of (fun t u => stp.trans u) (g _ _ _ v X' r1 r2)
theorem On.callI (X : On C R own b ml rt nm q Z a0 EL n0 vm T h k n) {l : Launch} (hl0 : C.l = l) {ix W k' n' : Nat} {y : MethodName} {bytes : ByteArray} {maxL : Nat} {r : Option FieldType} {ps : List FieldType} {rm : Room} {Q' : Option Value → Heap → (Addr → Prop) → Prop} {ws : List Addr} {a : Addr} {argsL sta : List Value} (hi : Ins b pc (.invokespecial ix) 3 pc')
    (hM : Con [] q l Z EL n0 ws y bytes maxL none rm (.ref a :: argsL).toArray h Q') (w1 : (Cond.methodLink own ix y).before a0 Z = true) (w2 : (Cond.instanceMethod y).before a0 Z = true) (w3 : (Cond.initialized y.cls).before a0 Z = true) (w4 : (Cond.code y bytes maxL none).before a0 Z = true) (hy1 : y.name = "<init>") (hy : y.cls ≠ "java/lang/invoke/MethodHandle" ∧ y.cls ≠ "java/lang/invoke/VarHandle")
    (hs : ∀ x ∈ ws, Safe Z EL vm h x ∧ x < h.size) (hd : parseMethodDescriptor y.desc = some ⟨ps, r⟩) (hn : argsL.length = ps.length) (hst : sta = argsL.reverse ++ .ref a :: st) (hsz : Ls.size = ml) (hW : 0 + (st.map fun v => v.category).sum = W) (hf : rm.frames + 1 ≤ R.frames) (hl : W + (maxL + 11) + rm.locals ≤ R.locals)
    (hk' : k + rm.cells = k') (hn' : n + rm.slots = n') (hc : k' ≤ R.cells) (hsl : n' ≤ R.slots)
    (g : ∀ vm' T' h' v, On C R own b ml rt nm q Z a0 EL n0 vm' T' h' k' n' → CHr Z EL vm h vm' h' → Q' v h' (Safe Z EL vm' h') → Go C R q Z EL n0 Q T' pc' Ls (v.toList ++ st)) : Go C R q Z EL n0 Q T pc Ls sta := by
  subst hl0 hst
  obtain ⟨-, rfl⟩ := id hi
  obtain ⟨⟨k0, locs, S, N, hS, hk⟩, -, -, -, hml, -⟩ := id X
  obtain ⟨v, vm1, B, -, S', s1, s2, hp, stp⟩ := S.specialBackS X.exec (y := y) hy1 X.owned (mv (s := C.s.setVm vm) X.zw w1) (mv (s := C.s.setVm vm) X.zw w2) (mv (s := C.s.setVm vm) X.zw w4) hy (backQ (W := W) hM X.zw w4 w3 hf hl X.ew X.chv hs) (g := mkF C.m pc Ls (argsL.reverse ++ .ref a :: st)) rfl (hsz.trans hml.symm) (Steps.refl _) (a := a) (argsL := argsL) (rest := st) (lenOf hd hn) rfl (by show 2 * 0 + _ ≤ _; omega) (X.dec hi)
    (fun _ _ => ⟨rfl, X.eT, hk' ▸ hc, hn' ▸ hsl⟩)
  obtain ⟨X', r1, r2⟩ := X.after N hS hk S' s1 s2 hp hk' hn'
  exact Go.of (fun t u => stp.trans u) (g _ _ _ v X' r1 r2)
/-- an instance method: y as the entry names it, z as the receiver's class Cl selects it -/
theorem On.callV (X : On C R own b ml rt nm q Z a0 EL n0 vm T h k n) {l : Launch} (hl0 : C.l = l) {ix W k' n' : Nat} {y z : MethodName} {Cl : String} {bytes : ByteArray} {maxL : Nat} {ret r : Option FieldType} {ps : List FieldType} {rm : Room} {Q' : Option Value → Heap → (Addr → Prop) → Prop} {ws : List Addr} {a : Addr} {argsL sta : List Value} (hi : Ins b pc (.invokevirtual ix) 3 pc')
    (hM : Con [] q l Z EL n0 ws z bytes maxL ret rm (.ref a :: argsL).toArray h Q') (E : Exa Z h a Cl) (w1 : (Cond.methodLink own ix y).before a0 Z = true) (w2 : (Cond.declares y).before a0 Z = true) (w5 : (Cond.selects Cl y z).before a0 Z = true) (hnf : NotFace (C.s.setVm vm) y) (w6 : (Cond.instanceMethod z).before a0 Z = true) (w3 : (Cond.initialized z.cls).before a0 Z = true) (w4 : (Cond.code z bytes maxL ret).before a0 Z = true) (hy : y.cls ≠ "java/lang/invoke/MethodHandle" ∧ y.cls ≠ "java/lang/invoke/VarHandle")
    (hs : ∀ x ∈ ws, Safe Z EL vm h x ∧ x < h.size) (hd : parseMethodDescriptor y.desc = some ⟨ps, r⟩) (hn : argsL.length = ps.length) (hst : sta = argsL.reverse ++ .ref a :: st) (hsz : Ls.size = ml) (hW : 0 + (st.map fun v => v.category).sum = W) (hf : rm.frames + 1 ≤ R.frames) (hl : W + (maxL + 11) + rm.locals ≤ R.locals)
    (hk' : k + rm.cells = k') (hn' : n + rm.slots = n') (hc : k' ≤ R.cells) (hsl : n' ≤ R.slots)
    (g : ∀ vm' T' h' v, On C R own b ml rt nm q Z a0 EL n0 vm' T' h' k' n' → CHr Z EL vm h vm' h' → Q' v h' (Safe Z EL vm' h') → Go C R q Z EL n0 Q T' pc' Ls (v.toList ++ st)) : Go C R q Z EL n0 Q T pc Ls sta := by
  subst hl0 hst
  obtain ⟨-, rfl⟩ := id hi
  obtain ⟨⟨k0, locs, S, N, hS, hk⟩, -, -, -, hml, -⟩ := id X
  obtain ⟨cB, kB, q1, q2, q3⟩ := isOf (s := C.s.setVm vm) X.zw X.eT E
  obtain ⟨v, vm1, B, -, S', s1, s2, hp, stp⟩ := S.virtualBackS X.exec (y := y) (z := z) X.owned (mv (s := C.s.setVm vm) X.zw w1) (mv (s := C.s.setVm vm) X.zw w2) hnf (mv (s := C.s.setVm vm) X.zw w5) (mv (s := C.s.setVm vm) X.zw w6) hy (backQ (W := W) hM X.zw w4 w3 hf hl X.ew X.chv hs) q1 q3 (g := mkF C.m pc Ls (argsL.reverse ++ .ref a :: st)) rfl (hsz.trans hml.symm) (Steps.refl _) (argsL := argsL) (rest := st) (lenOf hd hn) rfl (by show 2 * 0 + _ ≤ _; omega) (X.dec hi)
    (fun _ _ => ⟨rfl, X.eT, hk' ▸ hc, hn' ▸ hsl⟩)
  obtain ⟨X', r1, r2⟩ := X.after N hS hk S' s1 s2 hp hk' hn'
  exact Go.of (fun t u => stp.trans u) (g _ _ _ v X' r1 r2)
theorem nfSel {s : State} {Cl : String} {y : MethodName} (hZ : Z.Warmed39 vm) (w : (Cond.selects Cl y y).before a0 Z = true) : NotFace (s.setVm vm) y := notFace_of_selects (args := #[]) (mv (s := s.setVm vm) hZ w)
end Calls
end Jvm.Own
namespace Jvm.Own
open Jvm Jvm.ClassFile Sem Op Lib Jvm.Free Jvm.Stand Jvm.LawKit Jvm.RoadKit Bundle
/-! ### calls that a Back pays, and Strings -/
section Backs
variable {C : Cx} {R : Room} {own : String} {b : ByteArray} {ml : Nat} {rt : Option FieldType} {nm : String} {q : Bool} {Z : State} {a0 : Array Value} {EL : List (String × Nat)} {n0 : Nat} {vm : Vm} {T : State} {h : Heap} {k n : Nat} {Q : Option Value → Heap → (Addr → Prop) → Prop} {pc pc' pt : Nat} {Ls Ls' : Array Slot} {st : List Value}
theorem On.backI (X : On C R own b ml rt nm q Z a0 EL n0 vm T h k n) {ix W k' n' kc ks : Nat} {y : MethodName} {bytes : ByteArray} {maxL : Nat} {r : Option FieldType} {ps : List FieldType} {QQ : Option Value → Heap → List Loc → Prop} {a : Addr} {argsL sta : List Value} (hi : Ins b pc (.invokespecial ix) 3 pc')
    (hK : Back C.l R C.p C.e C.below (C.s.setVm vm) C.args y 3 W (fun P a' => a' = (.ref a :: argsL).toArray ∧ P.U.heap = h ∧ P.cells + kc ≤ R.cells ∧ P.slots + ks ≤ R.slots) (fun P _ v B => ∃ L, QQ v B.U.heap L ∧ B.locs = P.locs ++ L ∧ B.cells = P.cells + kc ∧ B.slots = P.slots + ks))
    (hQ : ∀ v h' L, QQ v h' L → Fr n0 L ∧ CHr Z EL vm h vm h' ∧ Old Z n0 h') (w1 : (Cond.methodLink own ix y).before a0 Z = true) (w2 : (Cond.instanceMethod y).before a0 Z = true) (w4 : (Cond.code y bytes maxL none).before a0 Z = true) (hy1 : y.name = "<init>") (hy : y.cls ≠ "java/lang/invoke/MethodHandle" ∧ y.cls ≠ "java/lang/invoke/VarHandle")
    (hd : parseMethodDescriptor y.desc = some ⟨ps, r⟩) (hn : argsL.length = ps.length) (hst : sta = argsL.reverse ++ .ref a :: st) (hsz : Ls.size = ml) (hW : 0 + (st.map fun v => v.category).sum = W)
    (hk' : k + kc = k') (hn' : n + ks = n') (hc : k' ≤ R.cells) (hsl : n' ≤ R.slots)
    (g : ∀ T' h' v L, On C R own b ml rt nm q Z a0 EL n0 vm T' h' k' n' → QQ v h' L → Go C R q Z EL n0 Q T' pc' Ls (v.toList ++ st)) : Go C R q Z EL n0 Q T pc Ls sta := by
  subst hst hk' hn'
  obtain ⟨-, rfl⟩ := id hi
  obtain ⟨⟨k0, locs, S, N, hS, hk⟩, -, -, -, hml, -⟩ := id X
  obtain ⟨v, vm1, B, -, S', hp, stp⟩ := S.specialBack X.exec (y := y) hy1 X.owned (mv (s := C.s.setVm vm) X.zw w1) (mv (s := C.s.setVm vm) X.zw w2) (mv (s := C.s.setVm vm) X.zw w4) hy hK (g := mkF C.m pc Ls (argsL.reverse ++ .ref a :: st)) rfl (hsz.trans hml.symm) (Steps.refl _) (a := a) (argsL := argsL) (rest := st) (lenOf hd hn) rfl (by show 2 * 0 + _ ≤ _; omega) (X.dec hi)
    (fun _ _ => ⟨rfl, X.eT, hc, hsl⟩)
  obtain ⟨L, r1, r2, r3, r4⟩ := hp
  rw [r2, r3, r4] at S'
  obtain ⟨f1, f2, f3⟩ := hQ v _ L r1
  exact Go.of (fun t u => stp.trans u) (g _ _ v L (X.put S' (N.app f1) hS hk rfl f2 f3) r1)
theorem On.backVt (X : On C R own b ml rt nm q Z a0 EL n0 vm T h k n) {ix W k' n' kc ks : Nat} {y z : MethodName} {Cl : String} {r : Option FieldType} {ps : List FieldType} {QQ : Option Value → Heap → List Loc → Prop} {a : Addr} {argsL sta : List Value} (hi : Ins b pc (.invokevirtual ix) 3 pc')
    (hK : Back C.l R C.p C.e C.below (C.s.setVm vm) C.args z 3 W (fun P a' => a' = (.ref a :: argsL).toArray ∧ P.U.heap = h ∧ P.cells + kc ≤ R.cells ∧ P.slots + ks ≤ R.slots) (fun P _ v B => ∃ L, QQ v B.U.heap L ∧ B.locs = P.locs ++ L ∧ B.cells = P.cells + kc ∧ B.slots = P.slots + ks))
    (hQ : ∀ v h' L, QQ v h' L → Fr n0 L ∧ CHr Z EL vm h vm h' ∧ Old Z n0 h') (E : Exa Z h a Cl) (w1 : (Cond.methodLink own ix y).before a0 Z = true) (w2 : (Cond.declares y).before a0 Z = true) (w5 : (Cond.selects Cl y z).before a0 Z = true) (hnf : NotFace (C.s.setVm vm) y) (w6 : (Cond.instanceMethod z).before a0 Z = true) (hy : y.cls ≠ "java/lang/invoke/MethodHandle" ∧ y.cls ≠ "java/lang/invoke/VarHandle")
    (hd : parseMethodDescriptor y.desc = some ⟨ps, r⟩) (hn : argsL.length = ps.length) (hst : sta = argsL.reverse ++ .ref a :: st) (hsz : Ls.size = ml) (hW : 0 + (st.map fun v => v.category).sum = W)
    (hk' : k + kc = k') (hn' : n + ks = n') (hc : k' ≤ R.cells) (hsl : n' ≤ R.slots)
    (g : ∀ T' h' v L, On C R own b ml rt nm q Z a0 EL n0 vm T' h' k' n' → QQ v h' L → Go C R q Z EL n0 Q T' pc' Ls (v.toList ++ st)) : Go C R q Z EL n0 Q T pc Ls sta := by
  subst hst hk' hn'
  obtain ⟨-, rfl⟩ := id hi
  obtain ⟨⟨k0, locs, S, N, hS, hk⟩, -, -, -, hml, -⟩ := id X
  obtain ⟨cB, kB, q1, q2, q3⟩ := isOf (s := C.s.setVm vm) X.zw X.eT E
  obtain ⟨v, vm1, B, -, S', hp, stp⟩ := S.virtualBack X.exec (y := y) (z := z) X.owned (mv (s := C.s.setVm vm) X.zw w1) (mv (s := C.s.setVm vm) X.zw w2) hnf (mv (s := C.s.setVm vm) X.zw w5) (mv (s := C.s.setVm vm) X.zw w6) hy hK q1 q3 (g := mkF C.m pc Ls (argsL.reverse ++ .ref a :: st)) rfl (hsz.trans hml.symm) (Steps.refl _) (argsL := argsL) (rest := st) (lenOf hd hn) rfl (by show 2 * 0 + _ ≤ _; omega) (X.dec hi)
    (fun _ _ => ⟨rfl, X.eT, hc, hsl⟩)
  obtain ⟨L, r1, r2, r3, r4⟩ := hp
  rw [r2, r3, r4] at S'
  obtain ⟨f1, f2, f3⟩ := hQ v _ L r1
  exact Go.of (fun t u => stp.trans u) (g _ _ v L (X.put S' (N.app f1) hS hk rfl f2 f3) r1)
end Backs
/-- a Latin-1 String and its byte[] -/
def Str (Z : State) (h : Heap) (x t : Addr) (kb : ClassId) (cs : List Int32) : Prop :=
  Exa Z h x "java/lang/String" ∧ Fld Z h x "java/lang/String" "value" "[B" (.ref t) ∧ Fld Z h x "java/lang/String" "coder" "B" (.int 0) ∧ Arv Z h t kb .byte (Int32.ofNat cs.length) (cs.map fun c => Value.int c.toInt8.toInt32) (.int 0) ∧ ∀ c ∈ cs, ¬ c < 0 ∧ ¬ (255 : Int32) < c
section Strs
variable {Z : State} {h h' : Heap} {x t a : Addr} {kb : ClassId} {cs : List Int32} {ws : List Addr} {sl : Nat} {v : Value}
theorem Str.ext (F : Str Z h x t kb cs) (E : Ext h h') : Str Z h' x t kb cs := ⟨F.1.ext E, F.2.1.ext E, F.2.2.1.ext E, F.2.2.2.1.ext E, F.2.2.2.2⟩
theorem Str.keep (F : Str Z h x t kb cs) (K : Keep h h' ws) (hx : x ∉ ws) (ht : t ∉ ws) : Str Z h' x t kb cs := ⟨F.1.keep K, F.2.1.keep K hx, F.2.2.1.keep K hx, F.2.2.2.1.keep K ht, F.2.2.2.2⟩
theorem Str.wr (F : Str Z h x t kb cs) (W : Wr h h' a sl v) (hx : x ≠ a) (ht : t ≠ a) : Str Z h' x t kb cs := ⟨F.1.wr W, F.2.1.other W (Or.inl hx), F.2.2.1.other W (Or.inl hx), F.2.2.2.1.other W ht, F.2.2.2.2⟩
theorem Str.lt (F : Str Z h x t kb cs) : x < h.size := F.1.lt
theorem Str.ltT (F : Str Z h x t kb cs) : t < h.size := F.2.2.2.1.lt
theorem own_all0 : ∀ c ∈ ([] : List Int32), ¬ c < 0 ∧ ¬ (255 : Int32) < c := fun _ z => nomatch z
theorem own_allS {c : Int32} {l : List Int32} (p : ¬ c < 0 ∧ ¬ (255 : Int32) < c) (r : ∀ x ∈ l, ¬ x < 0 ∧ ¬ (255 : Int32) < x) : ∀ x ∈ c :: l, ¬ x < 0 ∧ ¬ (255 : Int32) < x := fun x hx => (List.mem_cons.mp hx).elim (fun e => e ▸ p) (r x)
theorem own_and255 (x : Int32) : ¬ (x &&& (255 : Int32)) < 0 ∧ ¬ (255 : Int32) < (x &&& (255 : Int32)) := by
  have q := c_and x 255 (by decide)
  have e : (255 : Int32).toInt = 255 := by decide
  have e0 : (0 : Int32).toInt = 0 := by decide
  rw [e] at q
  constructor
  · intro z; have := Int32.lt_iff_toInt_lt.mp z; omega
  · intro z; have := Int32.lt_iff_toInt_lt.mp z; omega
theorem sf_nil {EL : List (String × Nat)} {vm : Vm} : ∀ x ∈ ([] : List Addr), Safe Z EL vm h x ∧ x < h.size := fun _ z => nomatch z
theorem sf_cons {EL : List (String × Nat)} {vm : Vm} {l : List Addr} (p : Safe Z EL vm h x ∧ x < h.size) (r : ∀ x ∈ l, Safe Z EL vm h x ∧ x < h.size) : ∀ y ∈ x :: l, Safe Z EL vm h y ∧ y < h.size := fun y hy => (List.mem_cons.mp hy).elim (fun e => e ▸ p) (r y)
theorem up16 {c : Int32} (hc : ¬ c < 0 ∧ ¬ (255 : Int32) < c) : ¬ c < 0 ∧ ¬ (65535 : Int32) < c := ⟨hc.1, fun z => hc.2 (Int32.lt_trans (by decide) z)⟩
end Strs
end Jvm.Own
namespace Jvm.Own
open Jvm Jvm.ClassFile Sem Op Lib Jvm.Free Jvm.Stand Jvm.LawKit Jvm.RoadKit Bundle
/-! ### String constants -/
section Ldc
variable {C : Cx} {R : Room} {own : String} {b : ByteArray} {ml : Nat} {rt : Option FieldType} {nm : String} {q : Bool} {Z : State} {a0 : Array Value} {EL : List (String × Nat)} {n0 : Nat} {vm : Vm} {T : State} {h : Heap} {k n : Nat} {Q : Option Value → Heap → (Addr → Prop) → Prop} {pc pc' pt : Nat} {Ls Ls' : Array Slot} {st : List Value}
theorem On.ldcS (X : On C R own b ml rt nm q Z a0 EL n0 vm T h k n) (hq : q = false) {ix k' n' nn : Nat} {text : String} {cs : List Int32} (hi : Ins b pc (.ldc ix) 2 pc') (w : (Cond.stringLink own ix text).before a0 Z = true) (wS : ∀ a ∈ Bundle.stringAtoms, a.before a0 Z = true) (hmem : (own, ix) ∈ EL)
    (h1 : ∀ c ∈ text.toList, c.toNat < 256) (h2 : text.toList.map (fun c => Value.int (Jvm.Lit.byteI c.toNat.toUInt16)) = cs.map fun c => Value.int c.toInt8.toInt32) (h3 : ∀ c ∈ cs, ¬ c < 0 ∧ ¬ (255 : Int32) < c) (h4 : cs.length ≤ 4000) (h5 : 4 * text.toList.length ≤ nn) (h6 : nn ≤ 536870912)
    (hk' : k + 2 = k') (hn' : n + (nn + 4) = n') (hc : k' ≤ R.cells) (hsl : n' ≤ R.slots)
    (g : ∀ vm' T' h' a t kb, On C R own b ml rt nm q Z a0 EL n0 vm' T' h' k' n' → Ext h h' → CHr Z EL vm h vm' h' → Str Z h' a t kb cs → (∀ x, Safe Z EL vm' h' x → x ≠ a ∧ x ≠ t) → Go C R q Z EL n0 Q T' pc' Ls (.ref a :: st)) : Go C R q Z EL n0 Q T pc Ls st := by
  subst hk' hn' hq
  obtain ⟨-, rfl⟩ := id hi
  obtain ⟨⟨k0, locs, S, N, hS, hk⟩, -⟩ := id X
  have hz : ¬ (Int32.ofNat cs.length) < 0 := by
    intro z
    have z1 := Int32.lt_iff_toInt_lt.mp z
    have e1 : (Int32.ofNat cs.length).toInt = cs.length := Int32.toInt_ofNat_small (by omega)
    have e2 : (0 : Int32).toInt = 0 := by decide
    omega
  have hl : (Int32.ofNat cs.length).toNatClampNeg = (cs.map fun c => Value.int c.toInt8.toInt32).length := by
    have e1 : (Int32.ofNat cs.length).toInt = cs.length := Int32.toInt_ofNat_small (by omega)
    rw [List.length_map]
    show (Int32.ofNat cs.length).toInt.toNat = _
    rw [e1]; rfl
  obtain ⟨a, T', h', k1, t, kb, S', e', E', hS', hk1, hZ', ho', A1, A2, A3, A4, -, -, hC, -, hne, st'⟩ := ldcCH S X.exec X.zw X.owned w wS X.eT hS hk X.ew hmem X.chv ⟨h1, h2⟩ hz hl (g := mkF C.m pc Ls st) rfl (X.dec hi) h5 h6 hc hsl
  refine Go.of st' (g T'.vm T' h' a t kb ?_ E' hC ⟨A1, A3, A2, A4, h3⟩ hne)
  obtain ⟨-, -, e2, e3, e4, e5, e6, e7, -, -, e10, e11, -, e13⟩ := X
  exact ⟨⟨k1, locs, S', N, hS', hk1⟩, e', e2, e3, e4, e5, e6, e7, hZ', ho', e10, e11.trans hC, (fun z => nomatch z), e13.ext E'⟩
theorem On.instNull (X : On C R own b ml rt nm q Z a0 EL n0 vm T h k n) {ix : Nat} (hi : Ins b pc (.instanceof ix) 3 pc') (g : Go C R q Z EL n0 Q T pc' Ls (.int 0 :: st)) : Go C R q Z EL n0 Q T pc Ls (.null :: st) := by
  obtain ⟨-, rfl⟩ := id hi
  obtain ⟨⟨k0, locs, S, N, hS, hk⟩, -⟩ := id X
  exact Go.of (S.instanceofNull X.exec (g := mkF C.m pc Ls (.null :: st)) rfl rfl (X.dec hi)) g
theorem On.castNull (X : On C R own b ml rt nm q Z a0 EL n0 vm T h k n) {ix : Nat} (hi : Ins b pc (.checkcast ix) 3 pc') (g : Go C R q Z EL n0 Q T pc' Ls (.null :: st)) : Go C R q Z EL n0 Q T pc Ls (.null :: st) := by
  obtain ⟨-, rfl⟩ := id hi
  obtain ⟨⟨k0, locs, S, N, hS, hk⟩, -⟩ := id X
  exact Go.of (S.checkcastNull X.exec (g := mkF C.m pc Ls (.null :: st)) rfl rfl (X.dec hi)) g
theorem On.newarrayE (X : On C R own b ml rt nm q Z a0 EL n0 vm T h k n) {aty : ArrayType} {ty : FieldType} {ad : String} {z : Int32} {cap k' n' : Nat} (hi : Ins b pc (.newarray aty) 2 pc') (hty : newarray.typeOf aty = ty) (w : (Cond.arrayClass ty).before a0 Z = true)
    (hz : ¬ z < 0) (hcap : z.toNatClampNeg ≤ cap) (hbig : cap * 8 ≤ 536870912) (hk' : k + 1 = k') (hn' : n + cap = n') (hc : k' ≤ R.cells) (hl : n' ≤ R.slots) (had : "[" ++ ty.toString = ad)
    (g : ∀ T' h' a kA, On C R own b ml rt nm q Z a0 EL n0 vm T' h' k' n' → Ext h h' → h.size = a → n0 ≤ a → Arv Z h' a kA ty z [] (defaultValue ty) → Safe Z EL vm h' a → Exa Z h' a ad → Go C R q Z EL n0 Q T' pc' Ls (.ref a :: st)) : Go C R q Z EL n0 Q T pc Ls (.int z :: st) := by
  subst hk' hn' hty
  obtain ⟨-, rfl⟩ := id hi
  obtain ⟨⟨k0, locs, S, N, hS, hk⟩, -⟩ := id X
  obtain ⟨T', h', kA, S', e', E', A', F', st'⟩ := newPE S X.exec X.zw w X.eT (g := mkF C.m pc Ls (.int z :: st)) rfl (X.dec hi) rfl hz hcap hbig hc hl had
  exact Go.of st' (g T' h' h.size kA (X.put S' N hS hk e' (CHr.ext E' X.chv) (X.old.ext E')) E' rfl X.n0le (Arv.new A' hz) ((Safe.new (Nat.le_refl _)).ext E' X.chv) F')
/-- a box of a cache -/
theorem On.aaloadB (X : On C R own b ml rt nm q Z a0 EL n0 vm T h k n) {a : Addr} {cl : Cell} {K d : String} {z j : Int32} {val : Int32 → Value} (hi : Ins b pc .aaload 1 pc') (B : Bxs Z a cl K d z val) (hin : ¬ j < 0 ∧ j < z)
    (g : ∀ e, Exa Z h e K → Go C R q Z EL n0 Q T pc' Ls (.ref e :: st)) : Go C R q Z EL n0 Q T pc Ls (.int j :: .ref a :: st) := by
  obtain ⟨-, rfl⟩ := id hi
  obtain ⟨⟨k0, locs, S, N, hS, hk⟩, -⟩ := id X
  obtain ⟨A, S2, S3, H⟩ := B
  have hb := inb_of S2 hin
  obtain ⟨e, e1, e2, -⟩ := H j hb
  have A' := A.ext X.ext0
  exact Go.of (fun t u => S.aaload X.exec (by rw [X.eT]; exact A'.1) (State.isArrayOf_alike X.zw.alike A'.2.1) rfl A'.2.2 hb e1 (g := mkF C.m pc Ls (.int j :: .ref a :: st)) rfl rfl (X.dec hi) t u) (g e (e2.ext X.ext0))
/-- an array's clone() -/
theorem On.clone (X : On C R own b ml rt nm q Z a0 EL n0 vm T h k n) {ad : String} {ix W cap k' n' : Nat} {a : Addr} {kA : ClassId} {ty : FieldType} {z : Int32} {vs : List Value} {dv : Value} (hi : Ins b pc (.invokevirtual ix) 3 pc') (w1 : (Cond.methodLink own ix ⟨ad, "clone", "()Ljava/lang/Object;"⟩).before a0 Z = true)
    (w2 : (Cond.sameMethod ad "java/lang/Object" "clone" "()Ljava/lang/Object;").before a0 Z = true) (w3 : (Cond.native ⟨"java/lang/Object", "clone", "()Ljava/lang/Object;"⟩).before a0 Z = true) (w4 : (Cond.instanceMethod ⟨"java/lang/Object", "clone", "()Ljava/lang/Object;"⟩).before a0 Z = true)
    (w5 : (Cond.selects ad ⟨ad, "clone", "()Ljava/lang/Object;"⟩ ⟨"java/lang/Object", "clone", "()Ljava/lang/Object;"⟩).before a0 Z = true) (w6 : (Cond.castable ad "java/lang/Cloneable").before a0 Z = true) (V : Arv Z h a kA ty z vs dv) (E : Exa Z h a ad) (hsz : Ls.size = ml) (hW : 0 + (st.map fun v => v.category).sum = W)
    (hf : 1 ≤ R.frames) (hl : W + 14 ≤ R.locals) (hcap : z.toNatClampNeg ≤ cap) (hk' : k + 1 = k') (hn' : n + cap = n') (hc : k' ≤ R.cells) (hsl : n' ≤ R.slots)
    (g : ∀ T' h' a', On C R own b ml rt nm q Z a0 EL n0 vm T' h' k' n' → Ext h h' → h.size = a' → n0 ≤ a' → Arv Z h' a' kA ty z vs dv → Exa Z h' a' ad → Safe Z EL vm h' a' → Go C R q Z EL n0 Q T' pc' Ls (.ref a' :: st)) : Go C R q Z EL n0 Q T pc Ls (.ref a :: st) := by
  subst hk' hn'
  obtain ⟨-, rfl⟩ := id hi
  obtain ⟨⟨k0, locs, S, N, hS, hk⟩, -, -, -, hml, -⟩ := id X
  obtain ⟨T', h', S', e', E', A', F', st'⟩ := cloneH S X.exec X.zw X.owned w1 w2 w3 w4 w5 w6 X.eT V.arh E (g := mkF C.m pc Ls (.ref a :: st)) rfl (hsz.trans hml.symm) rfl (X.dec hi) hf (W := W) (by show 2 * 0 + _ ≤ _; omega) hl hcap hc hsl
  exact Go.of st' (g T' h' h.size (X.put S' N hS hk e' (CHr.ext E' X.chv) (X.old.ext E')) E' rfl X.n0le A' F' ((Safe.new (Nat.le_refl _)).ext E' X.chv))
end Ldc
theorem own_narB (x : Int32) : nar .byte x.toInt8.toInt32 = x.toInt8.toInt32 := Value.int.inj (XT.narrow_b x)
section Starts
variable {s : State} {args : Array Value}
theorem own_eqI {a : Term} {c : Int32} (h : (Cond.eq a (.int c)).value args s none s [] = some true) : a.eval args s none [] s = some (.int c) := by
  obtain ⟨x, y, e1, e2, k1, -⟩ := cmp_v (Or.inl h)
  have e3 : y = .int c := Option.some.inj (e2.symm.trans (Term.int_eval c))
  subst e3
  cases x with
  | int z => rw [e1]; rw [gotT (Cond.eq_ints e1 (Term.int_eval c)) h]
  | _ => simp [Kin, Value.isRef] at k1
theorem own_eqR {a b : Term} {r : Addr} (h : (Cond.eq a b).value args s none s [] = some true) (hb : b.eval args s none [] s = some (.ref r)) : a.eval args s none [] s = some (.ref r) := by
  obtain ⟨x, y, e1, e2, -, k2⟩ := cmp_v (Or.inl h)
  cases e2.symm.trans hb
  have hx : x.isRef = true := k2.2
  rw [e1, gotT (eq_R e1 hb hx rfl) h]
theorem own_arrStart (hf : Fit s) {t : Term} {ty : FieldType} {a : Addr} {N : Int32} {vs : List Value} {dv : Value} (ev : t.eval args s none [] s = some (.ref a)) (ha : (Cond.arrayOf t ty).value args s none s [] = some true) (hl : (Cond.eq (.length t) (.int N)).value args s none s [] = some true) (hz : ¬ N < 0) (hN : N.toNatClampNeg = vs.length)
    (H : ∀ cl : Cell, s.heap[a]? = some cl → HasL cl 0 vs) : ∃ k, Arv s s.heap a k ty N vs dv := by
  obtain ⟨cl, A⟩ := Arr.start ev ha
  have e1 := own_eqI hl
  have e2 : s.arrayAt? a = some cl := A.fin (Vm.Alike.refl _)
  have e3 : cl.slots.size < 2 ^ 31 := by
    refine Classical.byContradiction fun q => ?_
    simp [Term.eval, ev, e2, q] at e1
  have e4 := len_f ev e2 e3
  have e5 : cl.slots.size.toInt32 = N := by
    have := e4.symm.trans e1
    simpa using this
  exact ⟨_, Arv.start hf A e3 e5 hz hN (H cl A.1)⟩
theorem own_elemAt {t : Term} {a : Addr} {j : Int32} {v : Value} {cl : Cell} (ev : t.eval args s none [] s = some (.ref a)) (he : (Term.elem t (.int j)).eval args s none [] s = some v) (hc : s.heap[a]? = some cl) : cl.slots[j.toNatClampNeg]? = some v := (elem_in he ev (Term.int_eval j) hc).2
theorem own_fldStart {t : Term} {m : Addr} {C n d : String} {v : Value} (ev : t.eval args s none [] s = some (.ref m)) (h : (Term.field t C n d).eval args s none [] s = some v) : Fld s s.heap m C n d v := Fld.start (by rw [← fld_at ev]; exact h)
end Starts
section Kinds
variable {Z : State} {a0 : Array Value}
theorem nsRoot {O K : String} {nk : Nat} (w : (Cond.noSuperclass O).before a0 Z = true) (wk : (Cond.instantiable K nk).before a0 Z = true) (hn : O ≠ K) : NS Z O K := by
  obtain ⟨c, k, h1, h2, h3, -, -⟩ := Cond.noSuperclass_spec w
  obtain ⟨t, kt, g1, -⟩ := Cond.instantiable_spec wk
  have ne := ids_ne h1 g1 hn
  refine ⟨c, t, h1, g1, fun fuel => ?_⟩
  cases fuel with
  | zero => rfl
  | succ f => simp [Vm.isSubclassAux, ne, h2, h3]
theorem nsNo {Cl K : String} {nc nk : Nat} (wc : (Cond.instantiable Cl nc).before a0 Z = true) (wk : (Cond.instantiable K nk).before a0 Z = true) (N : NS Z Cl K) (hn : Cl ≠ K) : ∃ c t, Z.vm.findClass Cl = some c ∧ Z.vm.findClass K = some t ∧ Z.vm.assignable c t = false := by
  obtain ⟨c, t, h0, g0, n3⟩ := N
  obtain ⟨c', kc, a1, a2, a3, -⟩ := Cond.instantiable_spec wc
  cases h0.symm.trans a1
  obtain ⟨t', kt, b1, b2, b3, b4, -⟩ := Cond.instantiable_spec wk
  cases g0.symm.trans b1
  have ne := ids_ne h0 g0 hn
  have b5 : kt.isInterface = false := (Bool.or_eq_false_iff.mp b4).1
  refine ⟨c, t, h0, g0, ?_⟩
  show Z.vm.assignableAux (255 + 1) c t = false
  simp [Vm.assignableAux, ne, a2, b2, a3, b3, b5, Vm.isSubclass, n3]
/-- .. and of an array class -/
theorem nsRootA {O K : String} {ty : FieldType} (w : (Cond.noSuperclass O).before a0 Z = true) (wk : (Cond.arrayClass ty).before a0 Z = true) (hK : "[" ++ ty.toString = K) (hn : O ≠ K) : NS Z O K := by
  obtain ⟨c, k, h1, h2, h3, -, -⟩ := Cond.noSuperclass_spec w
  obtain ⟨t, kt, comp, g1, -⟩ := Cond.arrayClass_spec wk
  rw [hK] at g1
  have ne := ids_ne h1 g1 hn
  refine ⟨c, t, h1, g1, fun fuel => ?_⟩
  cases fuel with
  | zero => rfl
  | succ f => simp [Vm.isSubclassAux, ne, h2, h3]
theorem nsNoA {Cl K m d o : String} {nc : Nat} {ty : FieldType} (wc : (Cond.instantiable Cl nc).before a0 Z = true) (wk : (Cond.arrayClass ty).before a0 Z = true) (hK : "[" ++ ty.toString = K) (ws : (Cond.sameMethod K o m d).before a0 Z = true) (N : NS Z Cl K) (hn : Cl ≠ K) : ∃ c t, Z.vm.findClass Cl = some c ∧ Z.vm.findClass K = some t ∧ Z.vm.assignable c t = false := by
  obtain ⟨c, t, h0, g0, n3⟩ := N
  obtain ⟨c', kc, a1, a2, a3, -⟩ := Cond.instantiable_spec wc
  cases h0.symm.trans a1
  obtain ⟨t', kt, comp, b1, b2, b3⟩ := Cond.arrayClass_spec wk
  rw [hK] at b1
  cases g0.symm.trans b1
  obtain ⟨t2, kt2, d1, d2, b5⟩ := Cond.sameMethod_class ws
  cases g0.symm.trans d1
  cases b2.symm.trans d2
  have ne := ids_ne h0 g0 hn
  refine ⟨c, t, h0, g0, ?_⟩
  show Z.vm.assignableAux (255 + 1) c t = false
  simp [Vm.assignableAux, ne, a2, b2, a3, b3, b5, Vm.isSubclass, n3]
end Kinds
end Jvm.Own
namespace Jvm.Own
open Jvm Jvm.ClassFile Sem Op Lib Jvm.Free Jvm.Stand Jvm.LawKit Jvm.RoadKit Bundle
/-! ### more calls -/
section Faces
variable {Z : State} {a0 : Array Value} {vm : Vm}
/-- a class that some selected method's class is: no interface -/
theorem nfOf {s : State} {Cl : String} {x y z : MethodName} (hZ : Z.Warmed39 vm) (w : (Cond.selects Cl x z).before a0 Z = true) (hz : z.cls = y.cls) : NotFace (s.setVm vm) y := fun r0 h0 => by
  obtain ⟨c2, r2, m2, -, -, q3, -, kP, hkP, hkPi⟩ := Cond.selects_spec (mv (s := s.setVm vm) (args := #[]) hZ w)
  have e1 := findClass_of_methodNamed q3
  have e2 := findClass_of_methodNamed h0
  rw [hz] at e1
  have e5 : m2.cls = r0.cls := Option.some.inj (e1.symm.trans e2)
  rw [e5] at hkP
  exact ⟨kP, hkP, hkPi⟩
theorem sameOf {Cl : String} {x y z : MethodName} (wd : (Cond.declares y).before a0 Z = true) (hy : y.cls ≠ "java/lang/invoke/MethodHandle" ∧ y.cls ≠ "java/lang/invoke/VarHandle") (w : (Cond.selects Cl x z).before a0 Z = true) (hz : z.cls = y.cls) : (Cond.sameMethod y.cls y.cls y.name y.desc).before a0 Z = true := by
  obtain ⟨r0, r, hn, -⟩ := Cond.declares_spec wd
  obtain ⟨c2, r2, m2, -, -, q3, -, kP, hkP, hkPi⟩ := Cond.selects_spec w
  have e1 := findClass_of_methodNamed q3
  have e2 := findClass_of_methodNamed hn
  rw [hz] at e1
  have e3 := State.methodFound?_of_named hn hy
  have e4 : Option.some m2.cls = some r0.cls := e1.symm.trans e2
  have e5 : m2.cls = r0.cls := Option.some.inj e4
  rw [e5] at hkP
  have hn' : Z.methodNamed? ⟨y.cls, y.name, y.desc⟩ = some r0 := hn
  apply Cond.before_iff.mpr
  simp [Cond.value, e2, e3, hn', hkP, hkPi]
theorem selP {Cl : String} {y : MethodName} (hy : y.cls ≠ "java/lang/invoke/MethodHandle" ∧ y.cls ≠ "java/lang/invoke/VarHandle") (w1 : (Cond.selects Cl y y).before a0 Z = true) (w2 : (Cond.instanceMethod y).before a0 Z = true) (w3 : (Cond.privateMethod y).before a0 Z = true) : (Cond.selects y.cls y y).before a0 Z = true := by
  obtain ⟨c2, r2, m2, -, -, q3, -, kP, hkP, hkPi⟩ := Cond.selects_spec w1
  obtain ⟨mk, methM, hnamed, hmethM, -, -⟩ := Cond.instanceMethod_spec w2
  obtain rfl : mk = m2 := Option.some.inj (hnamed.symm.trans q3)
  have e1 := findClass_of_methodNamed q3
  have e3 := State.methodFound?_of_named q3 hy
  have e4 : selectMethod {} Z.vm mk.cls mk = .method mk := selectMethod_private hmethM (Cond.privateMethod_at w3 mk methM q3 hmethM)
  apply Cond.before_iff.mpr
  simp [Cond.value, e1, e3, q3, e4, hkP, hkPi]
end Faces
section Calls2
variable {C : Cx} {R : Room} {own : String} {b : ByteArray} {ml : Nat} {rt : Option FieldType} {nm : String} {q : Bool} {Z : State} {a0 : Array Value} {EL : List (String × Nat)} {n0 : Nat} {vm : Vm} {T : State} {h : Heap} {k n : Nat} {Q : Option Value → Heap → (Addr → Prop) → Prop} {pc pc' pt : Nat} {Ls Ls' : Array Slot} {st : List Value}
/-- invokevirtual of a private method -/
theorem On.callP (X : On C R own b ml rt nm q Z a0 EL n0 vm T h k n) {l : Launch} (hl0 : C.l = l) {ix W k' n' : Nat} {y : MethodName} {Cl : String} {bytes : ByteArray} {maxL : Nat} {ret r : Option FieldType} {ps : List FieldType} {rm : Room} {Q' : Option Value → Heap → (Addr → Prop) → Prop} {ws : List Addr} {a : Addr} {argsL sta : List Value} (hi : Ins b pc (.invokevirtual ix) 3 pc')
    (hM : Con [] q l Z EL n0 ws y bytes maxL ret rm (.ref a :: argsL).toArray h Q') (E : Exa Z h a Cl) (w1 : (Cond.methodLink own ix y).before a0 Z = true) (w2 : (Cond.instanceMethod y).before a0 Z = true) (w5 : (Cond.selects y.cls y y).before a0 Z = true) (w6 : (Cond.privateMethod y).before a0 Z = true) (w3 : (Cond.initialized y.cls).before a0 Z = true) (w4 : (Cond.code y bytes maxL ret).before a0 Z = true) (hy : y.cls ≠ "java/lang/invoke/MethodHandle" ∧ y.cls ≠ "java/lang/invoke/VarHandle")
    (hs : ∀ x ∈ ws, Safe Z EL vm h x ∧ x < h.size) (hd : parseMethodDescriptor y.desc = some ⟨ps, r⟩) (hn : argsL.length = ps.length) (hst : sta = argsL.reverse ++ .ref a :: st) (hsz : Ls.size = ml) (hW : 0 + (st.map fun v => v.category).sum = W) (hf : rm.frames + 1 ≤ R.frames) (hl : W + (maxL + 11) + rm.locals ≤ R.locals)
    (hk' : k + rm.cells = k') (hn' : n + rm.slots = n') (hc : k' ≤ R.cells) (hsl : n' ≤ R.slots)
    (g : ∀ vm' T' h' v, On C R own b ml rt nm q Z a0 EL n0 vm' T' h' k' n' → CHr Z EL vm h vm' h' → Q' v h' (Safe Z EL vm' h') → Go C R q Z EL n0 Q T' pc' Ls (v.toList ++ st)) : Go C R q Z EL n0 Q T pc Ls sta := by
  subst hl0 hst
  obtain ⟨-, rfl⟩ := id hi
  obtain ⟨⟨k0, locs, S, N, hS, hk⟩, -, -, -, hml, -⟩ := id X
  obtain ⟨cell, hc1, hc2⟩ := E.cell
  obtain ⟨v, vm1, B, -, S', s1, s2, hp, stp⟩ := S.privateBackS X.exec (y := y) X.owned (mv (s := C.s.setVm vm) X.zw w1) (mv (s := C.s.setVm vm) X.zw w2) (mv (s := C.s.setVm vm) X.zw w5) (Cond.privateMethod_at (args := #[]) (mvP (s := C.s.setVm vm) X.zw w6)) (mv (s := C.s.setVm vm) X.zw w4) hy (backQ (W := W) hM X.zw w4 w3 hf hl X.ew X.chv hs) (g := mkF C.m pc Ls (argsL.reverse ++ .ref a :: st)) rfl (hsz.trans hml.symm) (Steps.refl _) (a := a) (by rw [X.eT]; exact hc1) hc2 (argsL := argsL) (rest := st) (lenOf hd hn) rfl (by show 2 * 0 + _ ≤ _; omega) (X.dec hi)
    (fun _ _ => ⟨rfl, X.eT, hk' ▸ hc, hn' ▸ hsl⟩)
  obtain ⟨X', r1, r2⟩ := X.after N hS hk S' s1 s2 hp hk' hn'
  exact Go.of (fun t u => stp.trans u) (g _ _ _ v X' r1 r2)
/-- invokeinterface -/
theorem On.callF (X : On C R own b ml rt nm q Z a0 EL n0 vm T h k n) {l : Launch} (hl0 : C.l = l) {ix cnt W k' n' : Nat} {y z : MethodName} {Cl : String} {bytes : ByteArray} {maxL : Nat} {ret r : Option FieldType} {ps : List FieldType} {rm : Room} {Q' : Option Value → Heap → (Addr → Prop) → Prop} {ws : List Addr} {a : Addr} {argsL sta : List Value} (hi : Ins b pc (.invokeinterface ix cnt) 5 pc')
    (hM : Con [] q l Z EL n0 ws z bytes maxL ret rm (.ref a :: argsL).toArray h Q') (E : Exa Z h a Cl) (w1 : (Cond.methodLink own ix y).before a0 Z = true) (w2 : (Cond.declares y).before a0 Z = true) (w7 : (Cond.interfaceMethod y.cls y.cls y.name y.desc).before a0 Z = true) (k7 : ((Cond.interfaceMethod y.cls y.cls y.name y.desc).onTables && (Cond.interfaceMethod y.cls y.cls y.name y.desc).keepsFace) = true) (w5 : (Cond.selects Cl y z).before a0 Z = true) (w6 : (Cond.instanceMethod z).before a0 Z = true) (w8 : (Cond.publicMethod z).before a0 Z = true) (w9 : (Cond.unhidden Cl y.name y.desc).before a0 Z = true) (w10 : (Cond.castable Cl y.cls).before a0 Z = true) (w3 : (Cond.initialized z.cls).before a0 Z = true) (w4 : (Cond.code z bytes maxL ret).before a0 Z = true) (hy : y.cls ≠ "java/lang/invoke/MethodHandle" ∧ y.cls ≠ "java/lang/invoke/VarHandle")
    (hs : ∀ x ∈ ws, Safe Z EL vm h x ∧ x < h.size) (hd : parseMethodDescriptor y.desc = some ⟨ps, r⟩) (hn : argsL.length = ps.length) (hst : sta = argsL.reverse ++ .ref a :: st) (hsz : Ls.size = ml) (hW : 0 + (st.map fun v => v.category).sum = W) (hf : rm.frames + 1 ≤ R.frames) (hl : W + (maxL + 11) + rm.locals ≤ R.locals)
    (hk' : k + rm.cells = k') (hn' : n + rm.slots = n') (hc : k' ≤ R.cells) (hsl : n' ≤ R.slots)
    (g : ∀ vm' T' h' v, On C R own b ml rt nm q Z a0 EL n0 vm' T' h' k' n' → CHr Z EL vm h vm' h' → Q' v h' (Safe Z EL vm' h') → Go C R q Z EL n0 Q T' pc' Ls (v.toList ++ st)) : Go C R q Z EL n0 Q T pc Ls sta := by
  subst hl0 hst
  obtain ⟨-, rfl⟩ := id hi
  obtain ⟨⟨k0, locs, S, N, hS, hk⟩, -, -, -, hml, -⟩ := id X
  obtain ⟨cB, kB, q1, q2, q3⟩ := isOf (s := C.s.setVm vm) X.zw X.eT E
  obtain ⟨v, vm1, B, -, S', s1, s2, hp, stp⟩ := S.interfaceBackS X.exec (xi := y) (y := z) X.owned (mv (s := C.s.setVm vm) X.zw w1) (mv (s := C.s.setVm vm) X.zw w2) (mv (s := C.s.setVm vm) X.zw w7 k7) (mv (s := C.s.setVm vm) X.zw w5) (mv (s := C.s.setVm vm) X.zw w6) (mv (s := C.s.setVm vm) X.zw w8) (mv (s := C.s.setVm vm) X.zw w9) (mv (s := C.s.setVm vm) X.zw w10) hy (backQ (W := W) hM X.zw w4 w3 hf hl X.ew X.chv hs) q1 q2 q3 (g := mkF C.m pc Ls (argsL.reverse ++ .ref a :: st)) rfl (hsz.trans hml.symm) (Steps.refl _) (argsL := argsL) (rest := st) (lenOf hd hn) rfl (by show 2 * 0 + _ ≤ _; omega) (X.dec hi)
    (fun _ _ => ⟨rfl, X.eT, hk' ▸ hc, hn' ▸ hsl⟩)
  obtain ⟨X', r1, r2⟩ := X.after N hS hk S' s1 s2 hp hk' hn'
  exact Go.of (fun t u => stp.trans u) (g _ _ _ v X' r1 r2)
/-- super.m(..) -/
theorem On.callU (X : On C R own b ml rt nm q Z a0 EL n0 vm T h k n) {l : Launch} (hl0 : C.l = l) {ix W k' n' : Nat} {y : MethodName} {Cl : String} {bytes : ByteArray} {maxL : Nat} {ret r : Option FieldType} {ps : List FieldType} {rm : Room} {Q' : Option Value → Heap → (Addr → Prop) → Prop} {ws : List Addr} {a : Addr} {argsL sta : List Value} (hi : Ins b pc (.invokespecial ix) 3 pc')
    (hM : Con [] q l Z EL n0 ws y bytes maxL ret rm (.ref a :: argsL).toArray h Q') (E : Exa Z h a Cl) (w1 : (Cond.methodLink own ix y).before a0 Z = true) (w5 : (Cond.sameMethod y.cls y.cls y.name y.desc).before a0 Z = true) (w2 : (Cond.instanceMethod y).before a0 Z = true) (w6 : (Cond.superclass own y.cls).before a0 Z = true) (hy1 : y.name ≠ "<init>") (w3 : (Cond.initialized y.cls).before a0 Z = true) (w4 : (Cond.code y bytes maxL ret).before a0 Z = true)
    (hs : ∀ x ∈ ws, Safe Z EL vm h x ∧ x < h.size) (hd : parseMethodDescriptor y.desc = some ⟨ps, r⟩) (hn : argsL.length = ps.length) (hst : sta = argsL.reverse ++ .ref a :: st) (hsz : Ls.size = ml) (hW : 0 + (st.map fun v => v.category).sum = W) (hf : rm.frames + 1 ≤ R.frames) (hl : W + (maxL + 11) + rm.locals ≤ R.locals)
    (hk' : k + rm.cells = k') (hn' : n + rm.slots = n') (hc : k' ≤ R.cells) (hsl : n' ≤ R.slots)
    (g : ∀ vm' T' h' v, On C R own b ml rt nm q Z a0 EL n0 vm' T' h' k' n' → CHr Z EL vm h vm' h' → Q' v h' (Safe Z EL vm' h') → Go C R q Z EL n0 Q T' pc' Ls (v.toList ++ st)) : Go C R q Z EL n0 Q T pc Ls sta := by
  subst hl0 hst
  obtain ⟨-, rfl⟩ := id hi
  obtain ⟨⟨k0, locs, S, N, hS, hk⟩, -, -, -, hml, -⟩ := id X
  obtain ⟨v, vm1, B, -, S', s1, s2, hp, stp⟩ := superBackS S X.exec X.zw (y := y) X.owned w1 w5 w2 w6 hy1 (backQ (W := W) hM X.zw w4 w3 hf hl X.ew X.chv hs) X.eT (RoadKit.Ins.self E) (g := mkF C.m pc Ls (argsL.reverse ++ .ref a :: st)) rfl (hsz.trans hml.symm) w4 (argsL := argsL) (rest := st) (lenOf hd hn) rfl (by show 2 * 0 + _ ≤ _; omega) (X.dec hi)
    (fun _ _ => ⟨rfl, X.eT, hk' ▸ hc, hn' ▸ hsl⟩)
  obtain ⟨X', r1, r2⟩ := X.after N hS hk S' s1 s2 hp hk' hn'
  exact Go.of (fun t u => stp.trans u) (g _ _ _ v X' r1 r2)
/-- System.arraycopy between primitive arrays of one kind -/
theorem On.arraycopy (X : On C R own b ml rt nm q Z a0 EL n0 vm T h k n) {ix W : Nat} {a d : Addr} {ka kd : ClassId} {ty : FieldType} {z z' sp dp nn : Int32} {vs vd us : List Value} {dv dd : Value} (hi : Ins b pc (.invokestatic ix) 3 pc') (w1 : (Cond.methodLink own ix Jvm.Stand.acN).before a0 Z = true) (w2 : (Cond.native Jvm.Stand.acN).before a0 Z = true) (w3 : (Cond.static Jvm.Stand.acN).before a0 Z = true) (w4 : (Cond.initialized "java/lang/System").before a0 Z = true)
    (A : Arv Z h a ka ty z vs dv) (B : Arv Z h d kd ty z' vd dd) (hty : refKind ty = false) (h1 : ¬ sp < 0) (h2 : ¬ dp < 0) (h3 : ¬ nn < 0) (h4 : sp.toNatClampNeg + nn.toNatClampNeg ≤ z.toNatClampNeg) (h5 : dp.toNatClampNeg + nn.toNatClampNeg ≤ z'.toNatClampNeg)
    (hus : us = (List.range nn.toNatClampNeg).map fun i => vs.getD (sp.toNatClampNeg + i) dv) (hl : dp.toNatClampNeg + nn.toNatClampNeg ≤ vd.length) (ge : n0 ≤ d) (Sf : Safe Z EL vm h d) (hsz : Ls.size = ml) (hf : 1 ≤ R.frames) (hW : 0 + (st.map fun v => v.category).sum = W) (hlo : W + (nativeFrameWords "java/lang/System" "arraycopy" 5 + 11) ≤ R.locals)
    (g : ∀ T' h', On C R own b ml rt nm q Z a0 EL n0 vm T' h' k n → Keep h h' [d] → Arv Z h' d kd ty z' (vd.take dp.toNatClampNeg ++ us ++ vd.drop (dp.toNatClampNeg + nn.toNatClampNeg)) dd → Go C R q Z EL n0 Q T' pc' Ls st) : Go C R q Z EL n0 Q T pc Ls (.int nn :: .int dp :: .ref d :: .int sp :: .ref a :: st) := by
  obtain ⟨-, rfl⟩ := id hi
  obtain ⟨⟨k0, locs, S, N, hS, hk⟩, -, -, -, hml, -⟩ := id X
  obtain ⟨T', h', L, S', e', N', K', V', st'⟩ := cpA S X.exec X.zw X.owned w1 w2 w3 w4 X.eT A B (Or.inl ⟨rfl, hty⟩) h1 h2 h3 h4 h5 hus hl N ge (g := mkF C.m pc Ls (.int nn :: .int dp :: .ref d :: .int sp :: .ref a :: st)) rfl (hsz.trans hml.symm) rfl (X.dec hi) hf (W := W) (by show 2 * 0 + _ ≤ _; omega) hlo
  exact Go.of st' (g T' h' (X.put S' N' hS hk e' (CHr.keep K' (sfS Sf sf0) X.chv) (X.old.keep K' (allS ge all0))) K' V')
end Calls2
end Jvm.Own
namespace Jvm.Own
open Jvm Jvm.ClassFile Sem Op Lib Jvm.Free Jvm.Stand Jvm.LawKit Jvm.RoadKit Bundle
/-! ### Class constants and a lambda's site -/
/-- the Class object of K is there -/
def OwnMir (Z : State) (K : String) (a : Addr) : Prop := ∃ c k, Z.vm.findClass K = some c ∧ Z.vm.classes[c]? = some k ∧ k.mirror = some a
theorem Con.introN {wl : List Jvm.Cond} {q : Bool} {l : Launch} {Z : State} {a0 : Array Value} {EL : List (String × Nat)} {n0 : Nat} {ws : List Addr} {y : MethodName} {bytes : ByteArray} {maxL : Nat} {ret : Option FieldType} {rm : Room} {as' : Array Value} {h : Heap} {Q : Option Value → Heap → (Addr → Prop) → Prop} {Ls : Array Slot}
    (hp : plainFor y = true) (hEL : EW Z a0 EL) (hO : Old Z n0 h) (ef : ∀ m, entryFrame m as' maxL = mkF m 0 Ls [])
    (body : ∀ (C : Cx) (vm : Vm) (T : State), C.l = l → On C rm y.cls bytes maxL ret y.name q Z a0 EL n0 vm T h 0 0 → (∀ x ∈ ws, Safe Z EL vm h x) → Z.methodNamed? y = some C.m → Go C rm q Z EL n0 Q T 0 Ls []) : Con wl q l Z EL n0 ws y bytes maxL ret rm as' h Q := by
  refine MetFree.of_bodySF hp hisR ?_
  intro p e s m args below meth c s₁ Bd hml0 hP hK
  obtain ⟨rfl, hZ, rfl, hC, hw⟩ := hP
  have e0 : s₁.heap = s.heap := by rw [Bd.state]; rfl
  have S0 : Stand p l e rm s m args below meth c s₁ [] 0 0 := Stand.of_body Bd
  have g := body (p, l, e, s, m, args, below, meth, c) s.vm s₁ rfl ⟨⟨0, [], S0, Fr.nil n0, (State.WarmedH.refl s).since 0, Nat.zero_le _⟩, e0, Bd.exec, Bd.bytes, hml0, Bd.returns, (name_of_methodNamed Bd.named Bd.method).1, Bd.notSynchronized, hZ, findClass_of_methodNamed Bd.named, hEL, CHr.refl hC, fun _ => State.WarmedH.refl s, hO⟩ hw
    (by have q1 : (Z.setVm s.vm).methodNamed? y = Z.methodNamed? y := State.methodNamed?_setVm hZ.alike y
        rw [← q1]; exact Bd.named)
  obtain ⟨s2, o, g1, g2, g3, v, L, g4, g5, g6, g7⟩ := g
  refine ⟨s2, o, castTop (ef m) g1, g2, g3, v, L, g4, g5, g6, g7⟩
section Lam
variable {C : Cx} {R : Room} {own : String} {b : ByteArray} {ml : Nat} {rt : Option FieldType} {nm : String} {q : Bool} {Z : State} {a0 : Array Value} {EL : List (String × Nat)} {n0 : Nat} {vm : Vm} {T : State} {h : Heap} {k n : Nat} {Q : Option Value → Heap → (Addr → Prop) → Prop} {pc pc' pt : Nat} {Ls Ls' : Array Slot} {st : List Value}
/-- ldc of a class whose Class object is there -/
theorem On.ldcM (X : On C R own b ml rt nm q Z a0 EL n0 vm T h k n) {ix : Nat} {K : String} {a : Addr} (hi : Ins b pc (.ldc ix) 2 pc') (w : (Cond.classLink own ix K).before a0 Z = true) (M : OwnMir Z K a)
    (g : ∀ T', On C R own b ml rt nm q Z a0 EL n0 vm T' h k n → Go C R q Z EL n0 Q T' pc' Ls (.ref a :: st)) : Go C R q Z EL n0 Q T pc Ls st := by
  obtain ⟨-, rfl⟩ := id hi
  obtain ⟨⟨k0, locs, S, N, hS, hk⟩, -⟩ := id X
  obtain ⟨c, kk, m1, m2, m3⟩ := M
  obtain ⟨k', z2, z3⟩ := X.zw.alike.2.2 _ _ m2
  have hev : (Term.mirror K).eval C.args (C.s.setVm vm) none [] (C.s.setVm vm) = some (.ref a) := by
    have e1 : vm.findClass K = some c := by rw [X.zw.alike.findClass]; exact m1
    have e2 : k'.mirror = some a := by rw [z3]; exact m3
    simp [Term.eval, State.setVm, e1, z2, e2]
  obtain ⟨vm', S', st'⟩ := S.ldcMirror X.exec X.owned (mv (s := C.s.setVm vm) X.zw w) hev (g := mkF C.m pc Ls st) rfl (X.dec hi)
  exact Go.of st' (g _ (X.put S' N hS hk X.eT (CHr.refl X.chv) X.old))
/-- a lambda that holds one reference -/
theorem On.lambda (X : On C R own b ml rt nm q Z a0 EL n0 vm T h k n) {y : MethodName} {ix k' n' W : Nat} {σ : Lambda.Shape} {v : Value} {Cn : String} (hi : Ins b pc (.invokedynamic ix) 5 pc') (hN : Z.methodNamed? y = some C.m) (w : (Cond.lambdaSite y pc ix σ).before a0 Z = true) (wO : (Cond.instantiable "java/lang/Object" 0).before a0 Z = true)
    (hcap : σ.captured = [.object Cn]) (lays : ((σ.file y.cls).bind (layoutFields · 0)).map (·.2.1) = some #[.object Cn]) (hv : v.isRef = true) (hsz : Ls.size = ml) (hW : 0 + ((v :: st).map fun v => v.category).sum = W) (hlo : W + 3072 ≤ R.locals)
    (hk' : k + 1 = k') (hn' : n + 1 = n') (hc : k' ≤ R.cells) (hl : n' ≤ R.slots)
    (g : ∀ T' h' a, On C R own b ml rt nm q Z a0 EL n0 vm T' h' k' n' → Ext h h' → h.size = a → n0 ≤ a → Go C R q Z EL n0 Q T' pc' Ls (.ref a :: st)) : Go C R q Z EL n0 Q T pc Ls (v :: st) := by
  subst hk' hn'
  obtain ⟨-, rfl⟩ := id hi
  obtain ⟨⟨k0, locs, S, N, hS, hk⟩, -, -, -, hml, -⟩ := id X
  obtain ⟨cK, one, hat⟩ := Cond.lambdaSite_spec w
  obtain ⟨m', kS, cfS, i0, p0, lk, hm', hkS, hcfS, hshape, -, hfind, hmade, hcan, hlk⟩ := State.lambdaAt?_spec hat
  have em : m' = C.m := Option.some.inj (hm'.symm.trans hN)
  rw [em] at hkS hfind hmade
  have elk : lk = .makes cK := by
    rcases hlk with ⟨a, cell, -, -, h, -⟩ | h
    · rw [hcap] at h; cases h
    · exact h.1
  subst elk
  obtain ⟨kS', hkS', hnameS⟩ := className_of_methodNamed hN
  have e9 : kS = kS' := Option.some.inj (hkS.symm.trans hkS')
  subst e9
  obtain ⟨bsm, nt, desc, site, hc0, hnt, hsite, hpar⟩ := Lambda.shapeOf?_site hshape
  obtain ⟨kK, hkK, htyK, hkindK, -⟩ := Lambda.made_types hmade hkS wO (by rw [hnameS]; exact lays)
  obtain ⟨kS2, z2, z3⟩ := X.zw.alike.2.2 _ _ hkS
  obtain ⟨kK2, y2, y3⟩ := X.zw.alike.2.2 _ _ hkK
  have t2 : kK2.instanceTypes = #[.object Cn] := by rw [y3]; exact htyK
  have t3 : kK2.kind = .ordinary := by rw [y3]; exact hkindK
  have hn0 : narrow (.object Cn) v = v := by cases v <;> rfl
  have hf0 : fits (.object Cn) v = true := by cases v <;> first | rfl | cases hv
  have hslotsE : ((kK2.instanceTypes.toList.zip [v]).map fun (t, v) => narrow t v) = [v] := by rw [t2]; simp [hn0]
  have pl : C.e.platform.lambdaLinkWords = 3072 := by rw [S.admits.platform]
  obtain ⟨S', st'⟩ := S.lambdaMakes X.exec (g := mkF C.m pc Ls (v :: st)) rfl (hsz.trans hml.symm) (X.dec hi) (vals := [v]) (rest := st) z2 (by rw [z3]; exact hfind) (by rw [z3]; exact hcfS) hc0 hnt (parseLong_of_parse hsite) (by rw [hpar, hcap]; rfl) rfl y2
    (by rw [pl]; show 2 * 0 + ((v :: st).map fun v => v.category).sum + 3072 ≤ R.locals; omega) hc (by rw [hslotsE]; exact hl)
    (fun i u hu => by
      rw [hslotsE] at hu
      match i, hu with
      | 0, hu => simp at hu; subst hu; show (C.s.setVm vm).fitsSlot cK .none 0 _ = true; simp [State.fitsSlot, State.slotType?, State.setVm, y2, t3, t2, hf0]
      | j + 1, hu => simp at hu)
  rw [hslotsE] at S' st'
  have E' : Ext h (T.pushCell { cls := cK, slots := [v].toArray, vm := .none }).heap := by
    have eT := X.eT
    subst eT
    refine ⟨by show T.heap.size ≤ (T.heap.push _).size; simp, fun a c h => ?_⟩
    show (T.heap.push _)[a]? = _
    rw [Array.getElem?_push_lt (Array.getElem?_eq_some_iff.mp h).1]; exact (Array.getElem?_eq_getElem _).symm.trans h
  have e5 : T.heap.size = h.size := by rw [X.eT]
  rw [e5] at st'
  exact Go.of st' (g _ _ h.size (X.put S' N hS hk rfl (CHr.ext E' X.chv) (X.old.ext E')) E' rfl X.n0le)
end Lam
end Jvm.Own
/- laws to paste: Road.backV, Road.lenW, Road.chN (cut by pick.py; bodies as the Statement names them) -/
namespace Jvm.Pilot.@@N@@
namespace StrChars
open Jvm Sem ClassFile Op Lib Jvm.Stand Jvm.Free.XT Jvm.Free.ALB Jvm.Free.JM Jvm.Free
open Jvm.Lib.Cold (StaticIs)
/-- a char array whose places are chars -/
def Ch (a : Addr) (A : Cell) (U : State) : Prop := Arr .char a A U ∧ Typed .char A
theorem Ch.mv {a : Addr} {A : Cell} {U U' : State} (h : Ch a A U) (hal : U.vm.Alike U'.vm) (hh : U'.heap = U.heap) : Ch a A U' := ⟨h.1.mv hal hh, h.2⟩
theorem Ch.keep {a : Addr} {A : Cell} {U U' : State} (h : Ch a A U) (hal : U.vm.Alike U'.vm) (hk : U'.heap[a]? = some A) : Ch a A U' := ⟨h.1.keep hal hk, h.2⟩
/-- what place i of a char[]'s cell holds -/
def cv (A : Cell) (i : Nat) : Int32 := match A.slots[i]? with | some (.int x) => x | _ => 0
theorem Ch.get {a : Addr} {A : Cell} {U : State} (h : Ch a A U) {i : Nat} (hi : i < A.slots.size) : A.slots[i]? = some (.int (cv A i)) := by
  have e := Array.getElem?_eq_getElem hi
  have f := h.2 i _ e
  unfold cv; rw [e]
  generalize A.slots[i] = v at f
  cases v <;> simp [fits] at f ⊢
/-- the byte that i2b leaves of a char -/
def lo8 (x : Int32) : Int32 := x.toInt8.toInt32
theorem fits_lo8 (y : Int32) : fits .byte (.int (lo8 y)) = true := by
  have h1 := y.toInt8.le_toInt
  have h2 := y.toInt8.toInt_lt
  simp only [lo8, fits, Bool.and_eq_true, decide_eq_true_eq, Int32.le_iff_toInt_le, Int8.toInt_toInt32, show (-128 : Int32).toInt = -128 from by decide, show (127 : Int32).toInt = 127 from by decide]
  omega
/-- A' is A but that each place j of lo .. hi - 1 holds f j -/
def Laid (A A' : Cell) (lo hi : Nat) (f : Nat → Value) : Prop := A'.cls = A.cls ∧ A'.vm = A.vm ∧ A'.slots.size = A.slots.size ∧ ∀ i, A'.slots[i]? = if lo ≤ i ∧ i < hi then some (f i) else A.slots[i]?
theorem Laid.zero (A : Cell) (lo : Nat) (f : Nat → Value) : Laid A A lo (lo + 0) f := ⟨rfl, rfl, rfl, fun i => by rw [if_neg (by omega)]⟩
theorem Laid.step {A Ak : Cell} {lo k : Nat} {f : Nat → Value} {v : Value} (h : Laid A Ak lo k f) (hlo : lo ≤ k) (hk : k < Ak.slots.size) (hv : v = f k) : Laid A (Ak.setSlot k v) lo (k + 1) f := by
  refine ⟨h.1, h.2.1, by simpa [Cell.setSlot] using h.2.2.1, fun i => ?_⟩
  by_cases e : k = i
  · subst e; rw [Cell.slots_setSlot_self v hk, if_pos (by omega), hv]
  · rw [Cell.slots_setSlot_ne v e, h.2.2.2 i]
    by_cases q : lo ≤ i ∧ i < k
    · rw [if_pos q, if_pos (by omega)]
    · rw [if_neg q, if_neg (by omega)]
def U16 : String := "java/lang/StringUTF16"
namespace Cmp5
def yN : MethodName := ⟨"java/lang/StringUTF16", "compress", "([CI[BII)I"⟩
abbrev yB : ByteArray := jdk_52_method_21_code
theorem d0 : decode yB 0 = .ok (.iconst 0, 1) := by decide +kernel
theorem d1 : decode yB 1 = .ok (.istore 5, 2) := by decide +kernel
theorem d3 : decode yB 3 = .ok (.iload 5, 2) := by decide +kernel
theorem d5 : decode yB 5 = .ok (.iload 4, 2) := by decide +kernel
theorem d7 : decode yB 7 = .ok (.if_icmp (.ge) 37, 3) := by decide +kernel
theorem d10 : decode yB 10 = .ok (.aload_n 0, 1) := by decide +kernel
theorem d11 : decode yB 11 = .ok (.iload_n 1, 1) := by decide +kernel
theorem d12 : decode yB 12 = .ok (.caload, 1) := by decide +kernel
theorem d13 : decode yB 13 = .ok (.istore 6, 2) := by decide +kernel
theorem d15 : decode yB 15 = .ok (.iload 6, 2) := by decide +kernel
theorem d17 : decode yB 17 = .ok (.sipush 255, 3) := by decide +kernel
theorem d20 : decode yB 20 = .ok (.if_icmp (.le) 6, 3) := by decide +kernel
theorem d26 : decode yB 26 = .ok (.aload_n 2, 1) := by decide +kernel
theorem d27 : decode yB 27 = .ok (.iload_n 3, 1) := by decide +kernel
theorem d28 : decode yB 28 = .ok (.iload 6, 2) := by decide +kernel
theorem d30 : decode yB 30 = .ok (.i2b, 1) := by decide +kernel
theorem d31 : decode yB 31 = .ok (.bastore, 1) := by decide +kernel
theorem d32 : decode yB 32 = .ok (.iinc 1 1, 3) := by decide +kernel
theorem d35 : decode yB 35 = .ok (.iinc 3 1, 3) := by decide +kernel
theorem d38 : decode yB 38 = .ok (.iinc 5 1, 3) := by decide +kernel
theorem d41 : decode yB 41 = .ok (.goto (-38), 3) := by decide +kernel
theorem d44 : decode yB 44 = .ok (.iload 4, 2) := by decide +kernel
theorem d46 : decode yB 46 = .ok (.ireturn, 1) := by decide +kernel
def site : List Cond := []
def tab : Cond := tabOf yN yB 7 (some .int) site
def P (b : Addr) (A : Cell) (d : Addr) (B : Cell) (o q len : Nat) (args : Array Value) (s : State) : Prop := args = #[.ref b, .int (Int32.ofNat o), .ref d, .int (Int32.ofNat q), .int (Int32.ofNat len)] ∧ Ch b A s ∧ Arr .byte d B s ∧ b ≠ d ∧ o + len ≤ A.slots.size ∧ q + len ≤ B.slots.size ∧ ∀ i, i < len → ¬ 255 < cv A (o + i)
def E (b : Addr) (A : Cell) (d : Addr) (B : Cell) (o q len : Nat) (r : Option Value) (s u : State) : Prop := r = some (.int (Int32.ofNat len)) ∧ ∃ B', Put d B' s u ∧ Laid B B' q (q + len) (fun j => Value.int (lo8 (cv A (o + (j - q)))))
/-- no char of the range above 255: len; the places written hold each char's low byte -/
theorem law (l : Launch) (b : Addr) (A : Cell) (d : Addr) (B : Cell) (o q len : Nat) : Law l yN 5 5 0 0 yB 7 (some .int) site (P b A d B o q len) (E b A d B o q len) (copyLocs d q len) 0 0 := by
  refine Law.of_walk (plainFor_of_name (by decide +kernel)) (by decide +kernel) (by decide +kernel) (by decide) (fun _ _ h => by rw [h.1]; rfl) (fun _ U U' hal hh h => ⟨h.1, h.2.1.mv hal hh, h.2.2.1.mv hal hh, h.2.2.2⟩) (fun r U U' V V' h1 hal h2 h => ⟨h.1, h.2.elim fun B' q => ⟨B', q.1.mv h1 h2, q.2⟩⟩) ?_
  intro p e s m args below meth c s₁ X0 hexec hbytes hml hret hlk hnm hown hh0 W hP
  obtain ⟨rfl, hA, hB, hne, l1, l2, hp⟩ := hP
  have c1 : Steps p.tables e below (s₁.setTop (entryFrame m #[.ref b, .int (Int32.ofNat o), .ref d, .int (Int32.ofNat q), .int (Int32.ofNat len)] 7)) (s₁.setTop (mkF m 0 #[.val (.ref b), .val (.int (Int32.ofNat o)), .val (.ref d), .val (.int (Int32.ofNat q)), .val (.int (Int32.ofNat len)), .unset, .unset] [])) := entry rfl
  have hA0 := hA.1.mv X0.warmed.alike hh0
  have hB0 := hB.mv X0.warmed.alike hh0
  have a31 := hA.1.2.2.2
  have c2 : Steps p.tables e below (s₁.setTop (entryFrame m #[.ref b, .int (Int32.ofNat o), .ref d, .int (Int32.ofNat q), .int (Int32.ofNat len)] 7)) (s₁.setTop (mkF m 3 #[.val (.ref b), .val (.int (Int32.ofNat o)), .val (.ref d), .val (.int (Int32.ofNat q)), .val (.int (Int32.ofNat len)), .val (.int 0), .unset] [])) := c1.trans (by
    refine iconstV X0.here hexec rfl 0 (hb hbytes d0) (by decide) ?_
    refine XS.istore X0.here hexec rfl (hb hbytes d1) rfl rfl ?_
    exact Steps.refl _)
  have loop : ∀ (r i : Nat), i + r = len → ∀ (z : Slot), (z = .unset ∨ ∃ w, z = .val w ∧ w.category = 1) → ∀ (Tl : State) (Bk : Cell), Stand p l e { frames := 0, locals := 0, cells := 0, slots := 0 } s m #[.ref b, .int (Int32.ofNat o), .ref d, .int (Int32.ofNat q), .int (Int32.ofNat len)] below meth c Tl ([] ++ copyLocs d q i) 0 0 → Put d Bk s₁ Tl → Laid B Bk q (q + i) (fun j => Value.int (lo8 (cv A (o + (j - q))))) →
      Steps p.tables e below (s₁.setTop (entryFrame m #[.ref b, .int (Int32.ofNat o), .ref d, .int (Int32.ofNat q), .int (Int32.ofNat len)] 7)) (Tl.setTop (mkF m 3 #[.val (.ref b), .val (.int (Int32.ofNat (o + i))), .val (.ref d), .val (.int (Int32.ofNat (q + i))), .val (.int (Int32.ofNat len)), .val (.int (Int32.ofNat i)), z] [])) → ∃ (T' : State) (B' : Cell) (z' : Slot), Stand p l e { frames := 0, locals := 0, cells := 0, slots := 0 } s m #[.ref b, .int (Int32.ofNat o), .ref d, .int (Int32.ofNat q), .int (Int32.ofNat len)] below meth c T' ([] ++ copyLocs d q len) 0 0 ∧ Put d B' s₁ T' ∧ Laid B B' q (q + len) (fun j => Value.int (lo8 (cv A (o + (j - q))))) ∧
      Steps p.tables e below (s₁.setTop (entryFrame m #[.ref b, .int (Int32.ofNat o), .ref d, .int (Int32.ofNat q), .int (Int32.ofNat len)] 7)) (T'.setTop (mkF m 3 #[.val (.ref b), .val (.int (Int32.ofNat (o + len))), .val (.ref d), .val (.int (Int32.ofNat (q + len))), .val (.int (Int32.ofNat len)), .val (.int (Int32.ofNat len)), z'] [])) := by
    intro r
    induction r with
    | zero =>
      intro i hi z hz Tl Bk Xl pl fl cl
      have hil : i = len := by omega
      rw [hil] at Xl fl cl
      exact ⟨Tl, Bk, z, Xl, pl, fl, cl⟩
    | succ r ih =>
      intro i hi z hz Tl Bk Xl pl fl cl
      have all := X0.warmed.alike.symm.trans Xl.warmed.alike
      have hAl := hA0.keep all (pl.other hne hA0.1)
      have hBk := hB0.like all pl.1 fl.1 fl.2.1 fl.2.2.1
      have hlt : q + i < Bk.slots.size := by rw [fl.2.2.1]; omega
      have c3 : Steps p.tables e below (s₁.setTop (entryFrame m #[.ref b, .int (Int32.ofNat o), .ref d, .int (Int32.ofNat q), .int (Int32.ofNat len)] 7)) (Tl.setTop (mkF m 12 #[.val (.ref b), .val (.int (Int32.ofNat (o + i))), .val (.ref d), .val (.int (Int32.ofNat (q + i))), .val (.int (Int32.ofNat len)), .val (.int (Int32.ofNat i)), z] [.int (Int32.ofNat (o + i)), .ref b])) := cl.trans (by
        refine XS.iload Xl.here hexec rfl (hb hbytes d3) rfl ?_
        refine XS.iload Xl.here hexec rfl (hb hbytes d5) rfl ?_
        refine XS.icmpNo Xl.here hexec rfl (hb hbytes d7) rfl (ii_ge_f (lt32 (by omega) (by omega))) ?_
        refine XS.aloadN Xl.here hexec rfl (hb hbytes d10) rfl rfl ?_
        refine XS.iloadN Xl.here hexec rfl (hb hbytes d11) rfl ?_
        exact Steps.refl _)
      have c4 : Steps p.tables e below (s₁.setTop (entryFrame m #[.ref b, .int (Int32.ofNat o), .ref d, .int (Int32.ofNat q), .int (Int32.ofNat len)] 7)) (Tl.setTop (mkF m 13 #[.val (.ref b), .val (.int (Int32.ofNat (o + i))), .val (.ref d), .val (.int (Int32.ofNat (q + i))), .val (.int (Int32.ofNat len)), .val (.int (Int32.ofNat i)), z] [.int (cv A (o + i))])) := c3.trans (by
        refine Xl.aget hexec hAl rfl (hA.get (i := o + i) (by omega)) rfl rfl (hb hbytes d12) ?_
        exact Steps.refl _)
      have c5 : Steps p.tables e below (s₁.setTop (entryFrame m #[.ref b, .int (Int32.ofNat o), .ref d, .int (Int32.ofNat q), .int (Int32.ofNat len)] 7)) (Tl.setTop (mkF m 15 #[.val (.ref b), .val (.int (Int32.ofNat (o + i))), .val (.ref d), .val (.int (Int32.ofNat (q + i))), .val (.int (Int32.ofNat len)), .val (.int (Int32.ofNat i)), .val (.int (cv A (o + i)))] [])) := c4.trans (by
        refine XS.istoreS Xl.here hexec rfl (hb hbytes d13) rfl rfl hz ?_
        exact Steps.refl _)
      have c6 : Steps p.tables e below (s₁.setTop (entryFrame m #[.ref b, .int (Int32.ofNat o), .ref d, .int (Int32.ofNat q), .int (Int32.ofNat len)] 7)) (Tl.setTop (mkF m 31 #[.val (.ref b), .val (.int (Int32.ofNat (o + i))), .val (.ref d), .val (.int (Int32.ofNat (q + i))), .val (.int (Int32.ofNat len)), .val (.int (Int32.ofNat i)), .val (.int (cv A (o + i)))] [.int (lo8 (cv A (o + i))), .int (Int32.ofNat (q + i)), .ref d])) := c5.trans (by
        refine XS.iload Xl.here hexec rfl (hb hbytes d15) rfl ?_
        refine sipushV Xl.here hexec rfl 255 (hb hbytes d17) (by decide) ?_
        refine XS.icmpYes Xl.here hexec rfl (pc0 := 20) rfl (hb hbytes d20) rfl (ii_le_t (hp i (by omega))) (by decide) rfl ?_
        refine XS.aloadN Xl.here hexec rfl (hb hbytes d26) rfl rfl ?_
        refine XS.iloadN Xl.here hexec rfl (hb hbytes d27) rfl ?_
        refine XS.iload Xl.here hexec rfl (hb hbytes d28) rfl ?_
        refine i2b Xl.here hexec rfl (hb hbytes d30) rfl ?_
        exact Steps.refl _)
      obtain ⟨T7, X7, p7, st7⟩ := Xl.aput hexec hBk rfl hlt rfl (fits_lo8 (cv A (o + i))) (g := (mkF m 31 #[.val (.ref b), .val (.int (Int32.ofNat (o + i))), .val (.ref d), .val (.int (Int32.ofNat (q + i))), .val (.int (Int32.ofNat len)), .val (.int (Int32.ofNat i)), .val (.int (cv A (o + i)))] [.int (lo8 (cv A (o + i))), .int (Int32.ofNat (q + i)), .ref d])) rfl (rest := []) rfl (hb hbytes d31)
      have c8 : Steps p.tables e below (s₁.setTop (entryFrame m #[.ref b, .int (Int32.ofNat o), .ref d, .int (Int32.ofNat q), .int (Int32.ofNat len)] 7)) (T7.setTop (mkF m 32 #[.val (.ref b), .val (.int (Int32.ofNat (o + i))), .val (.ref d), .val (.int (Int32.ofNat (q + i))), .val (.int (Int32.ofNat len)), .val (.int (Int32.ofNat i)), .val (.int (cv A (o + i)))] [])) := c6.trans (st7 _ (Steps.refl _))
      have c9 : Steps p.tables e below (s₁.setTop (entryFrame m #[.ref b, .int (Int32.ofNat o), .ref d, .int (Int32.ofNat q), .int (Int32.ofNat len)] 7)) (T7.setTop (mkF m 3 #[.val (.ref b), .val (.int (Int32.ofNat (o + i) + 1)), .val (.ref d), .val (.int (Int32.ofNat (q + i) + 1)), .val (.int (Int32.ofNat len)), .val (.int (Int32.ofNat i + 1)), .val (.int (cv A (o + i)))] [])) := c8.trans (by
        refine iincV X7.here hexec rfl 1 (hb hbytes d32) (by decide) rfl rfl ?_
        refine iincV X7.here hexec rfl 1 (hb hbytes d35) (by decide) rfl rfl ?_
        refine iincV X7.here hexec rfl 1 (hb hbytes d38) (by decide) rfl rfl ?_
        refine XS.goto X7.here hexec rfl (pc0 := 41) rfl (hb hbytes d41) (by decide) rfl ?_
        exact Steps.refl _)
      have c10 : Steps p.tables e below (s₁.setTop (entryFrame m #[.ref b, .int (Int32.ofNat o), .ref d, .int (Int32.ofNat q), .int (Int32.ofNat len)] 7)) (T7.setTop (mkF m 3 #[.val (.ref b), .val (.int (Int32.ofNat (o + (i + 1)))), .val (.ref d), .val (.int (Int32.ofNat (q + (i + 1)))), .val (.int (Int32.ofNat len)), .val (.int (Int32.ofNat (i + 1))), .val (.int (cv A (o + i)))] [])) := by
        have := c9
        rw [succ32, succ32, succ32] at this
        exact this
      exact ih (i + 1) (by omega) _ (Or.inr ⟨_, rfl, rfl⟩) T7 _ (by rw [copyLocs_step, ← List.append_assoc]; exact X7) (pl.trans p7) (fl.step (by omega) hlt (by simp)) c10
  obtain ⟨T9, B9, z9, X9, p9, f9, g9⟩ := loop len 0 (by omega) .unset (Or.inl rfl) s₁ B (by simpa [copyLocs] using X0) ⟨hB0.1, fun _ _ => rfl, rfl⟩ (Laid.zero _ _ _) c2
  have c11 : Steps p.tables e below (s₁.setTop (entryFrame m #[.ref b, .int (Int32.ofNat o), .ref d, .int (Int32.ofNat q), .int (Int32.ofNat len)] 7)) (T9.setTop (mkF m 46 #[.val (.ref b), .val (.int (Int32.ofNat (o + len))), .val (.ref d), .val (.int (Int32.ofNat (q + len))), .val (.int (Int32.ofNat len)), .val (.int (Int32.ofNat len)), z9] [.int (Int32.ofNat len)])) := g9.trans (by
    refine XS.iload X9.here hexec rfl (hb hbytes d3) rfl ?_
    refine XS.iload X9.here hexec rfl (hb hbytes d5) rfl ?_
    refine XS.icmpYes X9.here hexec rfl (pc0 := 7) rfl (hb hbytes d7) rfl (ii_ge_t (nlt32 (by omega) (Nat.le_refl _))) (by decide) rfl ?_
    refine XS.iload X9.here hexec rfl (hb hbytes d44) rfl ?_
    exact Steps.refl _)
  exact ⟨T9, some (.int (Int32.ofNat len)), _, _, _, X9, by simp, rfl, rfl, (fun h => by cases h), ⟨rfl, B9, p9.from hh0, f9⟩, fun fs hl => c11.trans (X9.ireturnOut hexec hret rfl (Or.inl rfl) (hb hbytes d46) hl)⟩
end Cmp5
namespace Cmp3
def yN : MethodName := ⟨"java/lang/StringUTF16", "compress", "([CII)[B"⟩
abbrev yB : ByteArray := jdk_52_method_16_code
theorem d0 : decode yB 0 = .ok (.iload_n 2, 1) := by decide +kernel
theorem d1 : decode yB 1 = .ok (.newarray .byte, 2) := by decide +kernel
theorem d3 : decode yB 3 = .ok (.astore_n 3, 1) := by decide +kernel
theorem d4 : decode yB 4 = .ok (.aload_n 0, 1) := by decide +kernel
theorem d5 : decode yB 5 = .ok (.iload_n 1, 1) := by decide +kernel
theorem d6 : decode yB 6 = .ok (.aload_n 3, 1) := by decide +kernel
theorem d7 : decode yB 7 = .ok (.iconst 0, 1) := by decide +kernel
theorem d8 : decode yB 8 = .ok (.iload_n 2, 1) := by decide +kernel
theorem d9 : decode yB 9 = .ok (.invokestatic 115, 3) := by decide +kernel
theorem d12 : decode yB 12 = .ok (.istore 4, 2) := by decide +kernel
theorem d14 : decode yB 14 = .ok (.iload 4, 2) := by decide +kernel
theorem d16 : decode yB 16 = .ok (.iload_n 2, 1) := by decide +kernel
theorem d17 : decode yB 17 = .ok (.if_icmp (.eq) 40, 3) := by decide +kernel
theorem d57 : decode yB 57 = .ok (.aload_n 3, 1) := by decide +kernel
theorem d58 : decode yB 58 = .ok (.areturn, 1) := by decide +kernel
def site : List Cond := [.arrayClass .byte, Cmp5.tab] ++ staticW U16 115 Cmp5.yN
def tab : Cond := tabOf yN yB 6 (some (.array .byte)) site
def P (b : Addr) (A : Cell) (o len : Nat) (args : Array Value) (s : State) : Prop := args = #[.ref b, .int (Int32.ofNat o), .int (Int32.ofNat len)] ∧ Ch b A s ∧ o + len ≤ A.slots.size ∧ len ≤ 536870912 ∧ ∀ i, i < len → ¬ 255 < cv A (o + i)
def E (b : Addr) (A : Cell) (o len : Nat) (r : Option Value) (s u : State) : Prop := NewArr .byte "[B" len (fun j => .int (lo8 (cv A (o + j)))) r s u ∧ u.heap.size = s.heap.size + 1
/-- no char of the range above 255: a new byte[] of their low bytes -/
theorem law (l : Launch) (b : Addr) (A : Cell) (o len : Nat) : Law l yN 3 3 1 18 yB 6 (some (.array .byte)) site (P b A o len) (E b A o len) [] 1 len := by
  refine Law.of_walk (plainFor_of_name (by decide +kernel)) (by decide +kernel) (by decide +kernel) (by decide) (fun _ _ h => by rw [h.1]; rfl) (fun _ U U' hal hh h => ⟨h.1, h.2.1.mv hal hh, h.2.2⟩) (fun r U U' V V' h1 hal h2 h => ⟨NewArr.mv r U U' V V' h1 hal h2 h.1, by rw [h1, h2]; exact h.2⟩) ?_
  intro p e s m args below meth c s₁ X0 hexec hbytes hml hret hlk hnm hown hh0 W hP
  obtain ⟨rfl, hA, l1, l2, hp⟩ := hP
  have a31 := hA.1.2.2.2
  have c1 : Steps p.tables e below (s₁.setTop (entryFrame m #[.ref b, .int (Int32.ofNat o), .int (Int32.ofNat len)] 6)) (s₁.setTop (mkF m 0 #[.val (.ref b), .val (.int (Int32.ofNat o)), .val (.int (Int32.ofNat len)), .unset, .unset, .unset] [])) := entry rfl
  have c2 : Steps p.tables e below (s₁.setTop (entryFrame m #[.ref b, .int (Int32.ofNat o), .int (Int32.ofNat len)] 6)) (s₁.setTop (mkF m 1 #[.val (.ref b), .val (.int (Int32.ofNat o)), .val (.int (Int32.ofNat len)), .unset, .unset, .unset] [.int (Int32.ofNat len)])) := c1.trans (by
    refine XS.iloadN X0.here hexec rfl (hb hbytes d0) rfl ?_
    exact Steps.refl _)
  obtain ⟨T3, B3, X3, ba3, bs3, bv3, bh3, bf3, st3⟩ := X0.anew hexec (atype := .byte) (wk W (.arrayClass .byte)) rfl (by show len * 1 ≤ _; omega) (by omega) (g := (mkF m 1 #[.val (.ref b), .val (.int (Int32.ofNat o)), .val (.int (Int32.ofNat len)), .unset, .unset, .unset] [.int (Int32.ofNat len)])) rfl (hb hbytes d1) (rest := []) rfl (Nat.le_refl _) (by show 0 + len ≤ len; omega)
  rw [hh0] at ba3 st3
  have kp3 : XT.Kept s T3 := (XT.Kept.of_eq hh0).push bh3
  have hA3 := hA.keep X3.warmed.alike (kp3 _ _ hA.1.1)
  have hne : b ≠ s.heap.size := hA.1.ne
  have c4 : Steps p.tables e below (s₁.setTop (entryFrame m #[.ref b, .int (Int32.ofNat o), .int (Int32.ofNat len)] 6)) (T3.setTop (mkF m 3 #[.val (.ref b), .val (.int (Int32.ofNat o)), .val (.int (Int32.ofNat len)), .unset, .unset, .unset] [.ref s.heap.size])) := c2.trans (st3 _ (Steps.refl _))
  have c5 : Steps p.tables e below (s₁.setTop (entryFrame m #[.ref b, .int (Int32.ofNat o), .int (Int32.ofNat len)] 6)) (T3.setTop (mkF m 9 #[.val (.ref b), .val (.int (Int32.ofNat o)), .val (.int (Int32.ofNat len)), .val (.ref s.heap.size), .unset, .unset] [.int (Int32.ofNat len), .int 0, .ref s.heap.size, .int (Int32.ofNat o), .ref b])) := c4.trans (by
    refine XS.astoreN X3.here hexec rfl (hb hbytes d3) rfl rfl rfl ?_
    refine XS.aloadN X3.here hexec rfl (hb hbytes d4) rfl rfl ?_
    refine XS.iloadN X3.here hexec rfl (hb hbytes d5) rfl ?_
    refine XS.aloadN X3.here hexec rfl (hb hbytes d6) rfl rfl ?_
    refine iconstV X3.here hexec rfl 0 (hb hbytes d7) (by decide) ?_
    refine XS.iloadN X3.here hexec rfl (hb hbytes d8) rfl ?_
    exact Steps.refl _)
  obtain ⟨v6, T6, X6, E6, g6⟩ := X3.callS hexec (Cmp5.law l b A s.heap.size B3 o 0 len) hown (wks W (staticW U16 115 Cmp5.yN)) (wk W Cmp5.tab) (W := 0) (Nat.le_of_ble_eq_true rfl) (Nat.le_of_ble_eq_true rfl) (Nat.le_refl _) (by show 0 + len + 0 ≤ len; omega) (g := (mkF m 9 #[.val (.ref b), .val (.int (Int32.ofNat o)), .val (.int (Int32.ofNat len)), .val (.ref s.heap.size), .unset, .unset] [.int (Int32.ofNat len), .int (Int32.ofNat 0), .ref s.heap.size, .int (Int32.ofNat o), .ref b])) rfl (by rw [hml]; rfl) c5 (argsL := [.ref b, .int (Int32.ofNat o), .ref s.heap.size, .int (Int32.ofNat 0), .int (Int32.ofNat len)]) (rest := []) rfl rfl (by show 2 * 0 + 0 ≤ _; decide) (hb hbytes d9) (⟨rfl, hA3, ba3, hne, l1, by rw [bs3]; simp, hp⟩)
  obtain ⟨rfl, B6, p6, f6⟩ := E6
  have c7 : Steps p.tables e below (s₁.setTop (entryFrame m #[.ref b, .int (Int32.ofNat o), .int (Int32.ofNat len)] 6)) (T6.setTop (mkF m 12 #[.val (.ref b), .val (.int (Int32.ofNat o)), .val (.int (Int32.ofNat len)), .val (.ref s.heap.size), .unset, .unset] [.int (Int32.ofNat len)])) := g6
  have c8 : Steps p.tables e below (s₁.setTop (entryFrame m #[.ref b, .int (Int32.ofNat o), .int (Int32.ofNat len)] 6)) (T6.setTop (mkF m 58 #[.val (.ref b), .val (.int (Int32.ofNat o)), .val (.int (Int32.ofNat len)), .val (.ref s.heap.size), .val (.int (Int32.ofNat len)), .unset] [.ref s.heap.size])) := c7.trans (by
    refine XS.istore X6.here hexec rfl (hb hbytes d12) rfl rfl ?_
    refine XS.iload X6.here hexec rfl (hb hbytes d14) rfl ?_
    refine XS.iloadN X6.here hexec rfl (hb hbytes d16) rfl ?_
    refine XS.icmpYes X6.here hexec rfl (pc0 := 17) rfl (hb hbytes d17) rfl (ii_eq_t rfl) (by decide) rfl ?_
    refine XS.aloadN X6.here hexec rfl (hb hbytes d57) rfl rfl ?_
    exact Steps.refl _)
  have X8 := X6.wide (L' := []) (cells' := 1) (slots' := len) (fun x hx hlt => by
    simp only [List.nil_append, copyLocs, List.mem_map, List.mem_range] at hx
    obtain ⟨i, -, rfl⟩ := hx
    exact absurd hlt (Nat.lt_irrefl _)) (Nat.le_refl _) (by omega)
  exact ⟨T6, some (.ref s.heap.size), _, _, _, X8, rfl, rfl, rfl, (fun h => by cases h), ⟨⟨rfl, B6, ba3.like (X3.warmed.alike.symm.trans X6.warmed.alike) p6.1 f6.1 f6.2.1 f6.2.2.1, f6.2.1.trans bv3, by rw [X6.warmed.alike.findClass, f6.1]; exact bf3, by rw [f6.2.2.1, bs3]; simp, fun j hj => by rw [f6.2.2.2 j, if_pos (by omega)]; rfl, kp3.put p6 (Nat.le_refl _)⟩, by rw [p6.2.2, bh3, hh0]; simp⟩, fun fs hl => c8.trans (X8.areturnOut hexec rfl hret rfl (hb hbytes d58) hl)⟩
end Cmp3
namespace CodL
def yN : MethodName := ⟨"java/lang/StringUTF16", "coderFromArrayLen", "([BI)B"⟩
abbrev yB : ByteArray := jdk_52_method_15_code
theorem d0 : decode yB 0 = .ok (.iload_n 1, 1) := by decide +kernel
theorem d1 : decode yB 1 = .ok (.aload_n 0, 1) := by decide +kernel
theorem d2 : decode yB 2 = .ok (.arraylength, 1) := by decide +kernel
theorem d3 : decode yB 3 = .ok (.isub, 1) := by decide +kernel
theorem d4 : decode yB 4 = .ok (.bipush 31, 2) := by decide +kernel
theorem d6 : decode yB 6 = .ok (.iushr, 1) := by decide +kernel
theorem d7 : decode yB 7 = .ok (.i2b, 1) := by decide +kernel
theorem d8 : decode yB 8 = .ok (.ireturn, 1) := by decide +kernel
def site : List Cond := []
def tab : Cond := tabOf yN yB 2 (some .byte) site
def P (d : Addr) (B : Cell) (args : Array Value) (s : State) : Prop := args = #[.ref d, .int (Int32.ofNat B.slots.size)] ∧ Arr .byte d B s
def E (r : Option Value) (s u : State) : Prop := XT.PureE (some (.int 0)) r s u
/-- an array as long as the number of chars: LATIN1 -/
theorem law (l : Launch) (d : Addr) (B : Cell) : Law l yN 2 2 0 0 yB 2 (some .byte) site (P d B) E [] 0 0 := by
  refine Law.of_walk (plainFor_of_name (by decide +kernel)) (by decide +kernel) (by decide +kernel) (by decide) (fun _ _ h => by rw [h.1]; rfl) (fun _ U U' hal hh h => ⟨h.1, h.2.mv hal hh⟩) (fun r U U' V V' h1 hal h2 h => XT.PureE.mv r U U' V V' h1 hal h2 h) ?_
  intro p e s m args below meth c s₁ X0 hexec hbytes hml hret hlk hnm hown hh0 W hP
  obtain ⟨rfl, hB⟩ := hP
  have hB0 := hB.mv X0.warmed.alike hh0
  have c1 : Steps p.tables e below (s₁.setTop (entryFrame m #[.ref d, .int (Int32.ofNat B.slots.size)] 2)) (s₁.setTop (mkF m 0 #[.val (.ref d), .val (.int (Int32.ofNat B.slots.size))] [])) := entry rfl
  have c2 : Steps p.tables e below (s₁.setTop (entryFrame m #[.ref d, .int (Int32.ofNat B.slots.size)] 2)) (s₁.setTop (mkF m 2 #[.val (.ref d), .val (.int (Int32.ofNat B.slots.size))] [.ref d, .int (Int32.ofNat B.slots.size)])) := c1.trans (by
    refine XS.iloadN X0.here hexec rfl (hb hbytes d0) rfl ?_
    refine XS.aloadN X0.here hexec rfl (hb hbytes d1) rfl rfl ?_
    exact Steps.refl _)
  have c3 : Steps p.tables e below (s₁.setTop (entryFrame m #[.ref d, .int (Int32.ofNat B.slots.size)] 2)) (s₁.setTop (mkF m 8 #[.val (.ref d), .val (.int (Int32.ofNat B.slots.size))] [.int (lo8 (ushr (Int32.ofNat B.slots.size - Int32.ofNat B.slots.size) 31))])) := c2.trans (by
    refine X0.alen hexec hB0 rfl rfl (hb hbytes d2) ?_
    refine XS.isub X0.here hexec rfl (hb hbytes d3) rfl ?_
    refine bipushV X0.here hexec rfl 31 (hb hbytes d4) (by decide) ?_
    refine iushr X0.here hexec rfl (hb hbytes d6) rfl ?_
    refine i2b X0.here hexec rfl (hb hbytes d7) rfl ?_
    exact Steps.refl _)
  have e0 : lo8 (ushr (Int32.ofNat B.slots.size - Int32.ofNat B.slots.size) 31) = 0 := by rw [Int32.sub_self]; decide
  rw [e0] at c3
  exact ⟨s₁, some (.int 0), _, _, _, X0, rfl, rfl, rfl, (fun h => by cases h), ⟨rfl, hh0⟩, fun fs hl => c3.trans (X0.ireturnOut hexec hret rfl (Or.inr (Or.inr (Or.inl rfl))) (hb hbytes d8) hl)⟩
end CodL
/-- the String at a is Latin-1 over a new byte[] (the heap's one new cell): the low bytes of the len chars of A from o on; every cell but a is kept -/
def Got (a : Addr) (D : Cell) (fV fC : Field) (A : Cell) (o len : Nat) (r : Option Value) (s u : State) : Prop := r = none ∧ ∃ D' V : Cell, Blank "java/lang/String" a D' u ∧ Same D D' [fV.slot, fC.slot] ∧ D'.slots[fV.slot]? = some (.ref s.heap.size) ∧ D'.slots[fC.slot]? = some (.int 0) ∧ Arr .byte s.heap.size V u ∧ V.vm = .none ∧ u.vm.findClass "[B" = some V.cls ∧ V.slots.size = len ∧ (∀ j, j < len → V.slots[j]? = some (.int (lo8 (cv A (o + j))))) ∧ (∀ (y : Addr) (c : Cell), y ≠ a → s.heap[y]? = some c → u.heap[y]? = some c) ∧ u.heap.size = s.heap.size + 1
theorem Got.mv {a : Addr} {D A : Cell} {fV fC : Field} {o len : Nat} : ∀ r (U U' V V' : State), U'.heap = U.heap → V.vm.Alike V'.vm → V'.heap = V.heap → Got a D fV fC A o len r U V → Got a D fV fC A o len r U' V' :=
  fun r U U' V V' h1 hal h2 ⟨e0, D', X, a1, a2, a3, a4, a5, a6, a7, a8, a9, a10, a11⟩ => ⟨e0, D', X, a1.mv hal h2, a2, by rw [h1]; exact a3, a4, by rw [h1]; exact a5.mv hal h2, a6, by rw [hal.findClass]; exact a7, a8, a9, by rw [h1, h2]; exact a10, by rw [h1, h2]; exact a11⟩
namespace New4
def yN : MethodName := ⟨"java/lang/String", "<init>", "([CIILjava/lang/Void;)V"⟩
abbrev yB : ByteArray := jdk_42_method_149_code
theorem d0 : decode yB 0 = .ok (.aload_n 0, 1) := by decide +kernel
theorem d1 : decode yB 1 = .ok (.invokespecial 1, 3) := by decide +kernel
theorem d4 : decode yB 4 = .ok (.iload_n 3, 1) := by decide +kernel
theorem d5 : decode yB 5 = .ok (.ifCond (.ne) 22, 3) := by decide +kernel
theorem d27 : decode yB 27 = .ok (.getstatic 38, 3) := by decide +kernel
theorem d30 : decode yB 30 = .ok (.ifCond (.eq) 28, 3) := by decide +kernel
theorem d33 : decode yB 33 = .ok (.aload_n 1, 1) := by decide +kernel
theorem d34 : decode yB 34 = .ok (.iload_n 2, 1) := by decide +kernel
theorem d35 : decode yB 35 = .ok (.iload_n 3, 1) := by decide +kernel
theorem d36 : decode yB 36 = .ok (.invokestatic 177, 3) := by decide +kernel
theorem d39 : decode yB 39 = .ok (.astore 5, 2) := by decide +kernel
theorem d41 : decode yB 41 = .ok (.aload_n 0, 1) := by decide +kernel
theorem d42 : decode yB 42 = .ok (.aload 5, 2) := by decide +kernel
theorem d44 : decode yB 44 = .ok (.iload_n 3, 1) := by decide +kernel
theorem d45 : decode yB 45 = .ok (.invokestatic 47, 3) := by decide +kernel
theorem d48 : decode yB 48 = .ok (.putfield 15, 3) := by decide +kernel
theorem d51 : decode yB 51 = .ok (.aload_n 0, 1) := by decide +kernel
theorem d52 : decode yB 52 = .ok (.aload 5, 2) := by decide +kernel
theorem d54 : decode yB 54 = .ok (.putfield 9, 3) := by decide +kernel
theorem d57 : decode yB 57 = .ok (.return_, 1) := by decide +kernel
def site : List Cond := [.fieldLink "java/lang/String" 38 "java/lang/String" "COMPACT_STRINGS" "Z", Cmp3.tab, CodL.tab, .laysFinal "java/lang/String" "java/lang/String" "value" "[B", .fieldLink "java/lang/String" 9 "java/lang/String" "value" "[B", .laysFinal "java/lang/String" "java/lang/String" "coder" "B", .fieldLink "java/lang/String" 15 "java/lang/String" "coder" "B"] ++ objW "java/lang/String" 1 ++ staticW "java/lang/String" 177 Cmp3.yN ++ staticW "java/lang/String" 47 CodL.yN
def tab : Cond := tabOf yN yB 6 none site
def P (a : Addr) (D : Cell) (fV fC : Field) (b : Addr) (A : Cell) (z : Int32) (o len : Nat) (args : Array Value) (s : State) : Prop := args = #[.ref a, .ref b, .int (Int32.ofNat o), .int (Int32.ofNat len), .null] ∧ Blank "java/lang/String" a D s ∧ Found "java/lang/String" "value" "[B" fV s ∧ Found "java/lang/String" "coder" "B" fC s ∧ Ch b A s ∧ StaticIs s "java/lang/String" "COMPACT_STRINGS" "Z" (.int z) ∧ ¬ z = 0 ∧ 0 < len ∧ o + len ≤ A.slots.size ∧ len ≤ 536870912 ∧ ∀ i, i < len → ¬ 255 < cv A (o + i)
def E (a : Addr) (D : Cell) (fV fC : Field) (A : Cell) (o len : Nat) (r : Option Value) (s u : State) : Prop := Got a D fV fC A o len r s u
/-- len > 0, no char of the range above 255: a Latin-1 String of their low bytes -/
theorem law (l : Launch) (a : Addr) (D : Cell) (fV fC : Field) (b : Addr) (A : Cell) (z : Int32) (o len : Nat) : Law l yN 5 4 2 35 yB 6 none site (P a D fV fC b A z o len) (E a D fV fC A o len) [⟨a, fC.slot⟩, ⟨a, fV.slot⟩] 1 len := by
  refine Law.of_walk (plainFor_of_name (by decide +kernel)) (by decide +kernel) (by decide +kernel) (by decide) (fun _ _ h => by rw [h.1]; rfl) (fun _ U U' hal hh h => ⟨h.1, h.2.1.mv hal hh, h.2.2.1.al hal, h.2.2.2.1.al hal, h.2.2.2.2.1.mv hal hh, h.2.2.2.2.2.1.there hal hh, h.2.2.2.2.2.2⟩) (fun r U U' V V' h1 hal h2 h => Got.mv r U U' V V' h1 hal h2 h) ?_
  intro p e s m args below meth c s₁ X0 hexec hbytes hml hret hlk hnm hown hh0 W hP
  obtain ⟨rfl, hB, f1, f2, hA, s1, hz, l0, l1, l2, hp⟩ := hP
  have a31 := hA.1.2.2.2
  have c1 : Steps p.tables e below (s₁.setTop (entryFrame m #[.ref a, .ref b, .int (Int32.ofNat o), .int (Int32.ofNat len), .null] 6)) (s₁.setTop (mkF m 0 #[.val (.ref a), .val (.ref b), .val (.int (Int32.ofNat o)), .val (.int (Int32.ofNat len)), .val .null, .unset] [])) := entry rfl
  have c2 : Steps p.tables e below (s₁.setTop (entryFrame m #[.ref a, .ref b, .int (Int32.ofNat o), .int (Int32.ofNat len), .null] 6)) (s₁.setTop (mkF m 1 #[.val (.ref a), .val (.ref b), .val (.int (Int32.ofNat o)), .val (.int (Int32.ofNat len)), .val .null, .unset] [.ref a])) := c1.trans (by
    refine XS.aloadN X0.here hexec rfl (hb hbytes d0) rfl rfl ?_
    exact Steps.refl _)
  obtain ⟨T3, X3, q3, st3⟩ := X0.oinit hexec hown (wks W (objW "java/lang/String" 1)) (g := (mkF m 1 #[.val (.ref a), .val (.ref b), .val (.int (Int32.ofNat o)), .val (.int (Int32.ofNat len)), .val .null, .unset] [.ref a])) rfl (by rw [hml]; rfl) (rest := []) rfl (hb hbytes d1) (W := 0) (by show 2 * 0 + 0 ≤ _; decide) (Nat.le_of_ble_eq_true rfl) (Nat.le_of_ble_eq_true rfl)
  have hh3 := q3.trans hh0
  have c4 : Steps p.tables e below (s₁.setTop (entryFrame m #[.ref a, .ref b, .int (Int32.ofNat o), .int (Int32.ofNat len), .null] 6)) (T3.setTop (mkF m 27 #[.val (.ref a), .val (.ref b), .val (.int (Int32.ofNat o)), .val (.int (Int32.ofNat len)), .val .null, .unset] [])) := (c2.trans (st3 _ (Steps.refl _))).trans (by
    refine XS.iloadN X3.here hexec rfl (hb hbytes d4) rfl ?_
    refine XS.ifYes X3.here hexec rfl (pc0 := 5) rfl (hb hbytes d5) rfl (i0_ne_t (nz32 (by omega) l0)) (by decide) rfl ?_
    exact Steps.refl _)
  obtain ⟨T5, X5, q5, st5⟩ := X3.sget hexec hown (wk W (.fieldLink "java/lang/String" 38 "java/lang/String" "COMPACT_STRINGS" "Z")) s1 (fun _ _ h => by rw [hh3]; exact h) (g := (mkF m 27 #[.val (.ref a), .val (.ref b), .val (.int (Int32.ofNat o)), .val (.int (Int32.ofNat len)), .val .null, .unset] [])) rfl (hb hbytes d27)
  have hh5 := q5.trans hh3
  have c6 : Steps p.tables e below (s₁.setTop (entryFrame m #[.ref a, .ref b, .int (Int32.ofNat o), .int (Int32.ofNat len), .null] 6)) (T5.setTop (mkF m 30 #[.val (.ref a), .val (.ref b), .val (.int (Int32.ofNat o)), .val (.int (Int32.ofNat len)), .val .null, .unset] [.int z])) := c4.trans (st5 _ (Steps.refl _))
  have c7 : Steps p.tables e below (s₁.setTop (entryFrame m #[.ref a, .ref b, .int (Int32.ofNat o), .int (Int32.ofNat len), .null] 6)) (T5.setTop (mkF m 36 #[.val (.ref a), .val (.ref b), .val (.int (Int32.ofNat o)), .val (.int (Int32.ofNat len)), .val .null, .unset] [.int (Int32.ofNat len), .int (Int32.ofNat o), .ref b])) := c6.trans (by
    refine XS.ifNo X5.here hexec rfl (hb hbytes d30) rfl (i0_eq_f hz) ?_
    refine XS.aloadN X5.here hexec rfl (hb hbytes d33) rfl rfl ?_
    refine XS.iloadN X5.here hexec rfl (hb hbytes d34) rfl ?_
    refine XS.iloadN X5.here hexec rfl (hb hbytes d35) rfl ?_
    exact Steps.refl _)
  obtain ⟨v8, T8, X8, E8, g8⟩ := X5.callS hexec (Cmp3.law l b A o len) hown (wks W (staticW "java/lang/String" 177 Cmp3.yN)) (wk W Cmp3.tab) (W := 0) (Nat.le_of_ble_eq_true rfl) (Nat.le_of_ble_eq_true rfl) (Nat.le_refl _) (by show 0 + len ≤ len; omega) (g := (mkF m 36 #[.val (.ref a), .val (.ref b), .val (.int (Int32.ofNat o)), .val (.int (Int32.ofNat len)), .val .null, .unset] [.int (Int32.ofNat len), .int (Int32.ofNat o), .ref b])) rfl (by rw [hml]; rfl) c7 (argsL := [.ref b, .int (Int32.ofNat o), .int (Int32.ofNat len)]) (rest := []) rfl rfl (by show 2 * 0 + 0 ≤ _; decide) (hb hbytes d36) (⟨rfl, hA.mv X5.warmed.alike hh5, l1, l2, hp⟩)
  obtain ⟨e8, z8⟩ := E8
  obtain ⟨rfl, N, n1, n2, n3, n4, n5, n6⟩ := NewArr.mv _ T5 s _ _ hh5.symm (Vm.Alike.refl _) rfl e8
  rw [hh5] at z8
  have hB1 := hB.keep X8.warmed.alike (n6 _ _ hB.1)
  have hne : s.heap.size ≠ a := (Nat.ne_of_lt (Array.getElem?_eq_some_iff.mp hB.1).1).symm
  have c9 : Steps p.tables e below (s₁.setTop (entryFrame m #[.ref a, .ref b, .int (Int32.ofNat o), .int (Int32.ofNat len), .null] 6)) (T8.setTop (mkF m 39 #[.val (.ref a), .val (.ref b), .val (.int (Int32.ofNat o)), .val (.int (Int32.ofNat len)), .val .null, .unset] [.ref s.heap.size])) := g8
  have c10 : Steps p.tables e below (s₁.setTop (entryFrame m #[.ref a, .ref b, .int (Int32.ofNat o), .int (Int32.ofNat len), .null] 6)) (T8.setTop (mkF m 45 #[.val (.ref a), .val (.ref b), .val (.int (Int32.ofNat o)), .val (.int (Int32.ofNat len)), .val .null, .val (.ref s.heap.size)] [.int (Int32.ofNat N.slots.size), .ref s.heap.size, .ref a])) := by
    have hc : Steps p.tables e below (s₁.setTop (entryFrame m #[.ref a, .ref b, .int (Int32.ofNat o), .int (Int32.ofNat len), .null] 6)) (T8.setTop (mkF m 45 #[.val (.ref a), .val (.ref b), .val (.int (Int32.ofNat o)), .val (.int (Int32.ofNat len)), .val .null, .val (.ref s.heap.size)] [.int (Int32.ofNat len), .ref s.heap.size, .ref a])) := c9.trans (by
      refine XS.astore X8.here hexec rfl (hb hbytes d39) rfl rfl rfl ?_
      refine XS.aloadN X8.here hexec rfl (hb hbytes d41) rfl rfl ?_
      refine XS.aload X8.here hexec rfl (hb hbytes d42) rfl rfl ?_
      refine XS.iloadN X8.here hexec rfl (hb hbytes d44) rfl ?_
      exact Steps.refl _)
    rw [n4]; exact hc
  obtain ⟨v11, T11, X11, E11, g11⟩ := X8.callS hexec (CodL.law l s.heap.size N) hown (wks W (staticW "java/lang/String" 47 CodL.yN)) (wk W CodL.tab) (W := 1) (Nat.le_of_ble_eq_true rfl) (Nat.le_of_ble_eq_true rfl) (Nat.le_refl _) (by show 0 + len + 0 ≤ len; omega) (g := (mkF m 45 #[.val (.ref a), .val (.ref b), .val (.int (Int32.ofNat o)), .val (.int (Int32.ofNat len)), .val .null, .val (.ref s.heap.size)] [.int (Int32.ofNat N.slots.size), .ref s.heap.size, .ref a])) rfl (by rw [hml]; rfl) c10 (argsL := [.ref s.heap.size, .int (Int32.ofNat N.slots.size)]) (rest := [.ref a]) rfl rfl (by show 2 * 0 + (1 + 0) ≤ _; decide) (hb hbytes d45) (⟨rfl, n1⟩)
  obtain ⟨rfl, q11⟩ := E11
  have hB11 := hB1.mv (X8.warmed.alike.symm.trans X11.warmed.alike) q11
  have c12 : Steps p.tables e below (s₁.setTop (entryFrame m #[.ref a, .ref b, .int (Int32.ofNat o), .int (Int32.ofNat len), .null] 6)) (T11.setTop (mkF m 48 #[.val (.ref a), .val (.ref b), .val (.int (Int32.ofNat o)), .val (.int (Int32.ofNat len)), .val .null, .val (.ref s.heap.size)] [.int 0, .ref a])) := g11
  obtain ⟨T13, X13, p13, bl13, sl13, st13⟩ := X11.finit hexec hown (wk W (.fieldLink "java/lang/String" 15 "java/lang/String" "coder" "B")) (Or.inr ⟨_, (wk W (.laysFinal "java/lang/String" "java/lang/String" "coder" "B"))⟩) (Or.inl ⟨rfl, hnm⟩) f2 (Or.inl rfl) hB11 (t := .byte) (by decide +kernel) rfl (g := (mkF m 48 #[.val (.ref a), .val (.ref b), .val (.int (Int32.ofNat o)), .val (.int (Int32.ofNat len)), .val .null, .val (.ref s.heap.size)] [.int 0, .ref a])) rfl (rest := []) rfl (hb hbytes d48)
  have c14 : Steps p.tables e below (s₁.setTop (entryFrame m #[.ref a, .ref b, .int (Int32.ofNat o), .int (Int32.ofNat len), .null] 6)) (T13.setTop (mkF m 54 #[.val (.ref a), .val (.ref b), .val (.int (Int32.ofNat o)), .val (.int (Int32.ofNat len)), .val .null, .val (.ref s.heap.size)] [.ref s.heap.size, .ref a])) := (c12.trans (st13 _ (Steps.refl _))).trans (by
    refine XS.aloadN X13.here hexec rfl (hb hbytes d51) rfl rfl ?_
    refine XS.aload X13.here hexec rfl (hb hbytes d52) rfl rfl ?_
    exact Steps.refl _)
  obtain ⟨T15, X15, p15, bl15, sl15, st15⟩ := X13.finit hexec hown (wk W (.fieldLink "java/lang/String" 9 "java/lang/String" "value" "[B")) (Or.inr ⟨_, (wk W (.laysFinal "java/lang/String" "java/lang/String" "value" "[B"))⟩) (Or.inl ⟨rfl, hnm⟩) f1 (Or.inl rfl) bl13 (t := (.array .byte)) (by decide +kernel) rfl (g := (mkF m 54 #[.val (.ref a), .val (.ref b), .val (.int (Int32.ofNat o)), .val (.int (Int32.ofNat len)), .val .null, .val (.ref s.heap.size)] [.ref s.heap.size, .ref a])) rfl (rest := []) rfl (hb hbytes d54)
  have c16 : Steps p.tables e below (s₁.setTop (entryFrame m #[.ref a, .ref b, .int (Int32.ofNat o), .int (Int32.ofNat len), .null] 6)) (T15.setTop (mkF m 57 #[.val (.ref a), .val (.ref b), .val (.int (Int32.ofNat o)), .val (.int (Int32.ofNat len)), .val .null, .val (.ref s.heap.size)] [])) := c14.trans (st15 _ (Steps.refl _))
  have ap := apart (Or.inr ⟨_, (wk W (.laysFinal "java/lang/String" "java/lang/String" "value" "[B"))⟩) (Or.inr ⟨_, (wk W (.laysFinal "java/lang/String" "java/lang/String" "coder" "B"))⟩) f1 f2 (t₁ := .array .byte) (t₂ := .byte) (by decide +kernel) (by decide +kernel) (by decide)
  have al := X8.warmed.alike.symm.trans X15.warmed.alike
  have n7 : T11.heap[s.heap.size]? = some N := by rw [q11]; exact n1.1
  exact ⟨T15, none, _, _, _, X15, by simp, rfl, by omega, (fun _ => rfl), ⟨rfl, _, N, bl15, ((Same.refl D _).set _ (by simp)).set _ (by simp), sl15, (Cell.slots_setSlot_ne _ ap).trans sl13, n1.keep al (p15.other hne (p13.other hne n7)), n2, by rw [al.findClass]; exact n3, n4, n5, fun y c h1 h2 => p15.other h1 (p13.other h1 (by rw [q11]; exact n6 y c h2)), by rw [p15.2.2, p13.2.2, q11]; exact z8⟩, fun fs hl => c16.trans (X15.returnOut hexec hret (hb hbytes d57) hl)⟩
end New4
namespace New1
def yN : MethodName := ⟨"java/lang/String", "<init>", "([C)V"⟩
abbrev yB : ByteArray := jdk_42_method_3_code
theorem d0 : decode yB 0 = .ok (.aload_n 0, 1) := by decide +kernel
theorem d1 : decode yB 1 = .ok (.aload_n 1, 1) := by decide +kernel
theorem d2 : decode yB 2 = .ok (.iconst 0, 1) := by decide +kernel
theorem d3 : decode yB 3 = .ok (.aload_n 1, 1) := by decide +kernel
theorem d4 : decode yB 4 = .ok (.arraylength, 1) := by decide +kernel
theorem d5 : decode yB 5 = .ok (.aconst_null, 1) := by decide +kernel
theorem d6 : decode yB 6 = .ok (.invokespecial 27, 3) := by decide +kernel
theorem d9 : decode yB 9 = .ok (.return_, 1) := by decide +kernel
def site : List Cond := [New4.tab] ++ initW "java/lang/String" 27 New4.yN
def tab : Cond := tabOf yN yB 2 none site
def P (a : Addr) (D : Cell) (fV fC : Field) (b : Addr) (A : Cell) (z : Int32) (args : Array Value) (s : State) : Prop := args = #[.ref a, .ref b] ∧ Blank "java/lang/String" a D s ∧ Found "java/lang/String" "value" "[B" fV s ∧ Found "java/lang/String" "coder" "B" fC s ∧ Ch b A s ∧ StaticIs s "java/lang/String" "COMPACT_STRINGS" "Z" (.int z) ∧ ¬ z = 0 ∧ 0 < A.slots.size ∧ A.slots.size ≤ 536870912 ∧ ∀ i, i < A.slots.size → ¬ 255 < cv A i
def E (a : Addr) (D : Cell) (fV fC : Field) (A : Cell) (r : Option Value) (s u : State) : Prop := Got a D fV fC A 0 A.slots.size r s u
/-- new String(chars), not empty, no char above 255: a Latin-1 String of their low bytes -/
theorem law (l : Launch) (a : Addr) (D : Cell) (fV fC : Field) (b : Addr) (A : Cell) (z : Int32) : Law l yN 2 1 3 52 yB 2 none site (P a D fV fC b A z) (E a D fV fC A) [⟨a, fC.slot⟩, ⟨a, fV.slot⟩] 1 A.slots.size := by
  refine Law.of_walk (plainFor_of_name (by decide +kernel)) (by decide +kernel) (by decide +kernel) (by decide) (fun _ _ h => by rw [h.1]; rfl) (fun _ U U' hal hh h => ⟨h.1, h.2.1.mv hal hh, h.2.2.1.al hal, h.2.2.2.1.al hal, h.2.2.2.2.1.mv hal hh, h.2.2.2.2.2.1.there hal hh, h.2.2.2.2.2.2⟩) (fun r U U' V V' h1 hal h2 h => Got.mv r U U' V V' h1 hal h2 h) ?_
  intro p e s m args below meth c s₁ X0 hexec hbytes hml hret hlk hnm hown hh0 W hP
  obtain ⟨rfl, hB, f1, f2, hA, s1, hz, l0, l2, hp⟩ := hP
  have c1 : Steps p.tables e below (s₁.setTop (entryFrame m #[.ref a, .ref b] 2)) (s₁.setTop (mkF m 0 #[.val (.ref a), .val (.ref b)] [])) := entry rfl
  have c2 : Steps p.tables e below (s₁.setTop (entryFrame m #[.ref a, .ref b] 2)) (s₁.setTop (mkF m 6 #[.val (.ref a), .val (.ref b)] [.null, .int (Int32.ofNat A.slots.size), .int 0, .ref b, .ref a])) := c1.trans (by
    refine XS.aloadN X0.here hexec rfl (hb hbytes d0) rfl rfl ?_
    refine XS.aloadN X0.here hexec rfl (hb hbytes d1) rfl rfl ?_
    refine iconstV X0.here hexec rfl 0 (hb hbytes d2) (by decide) ?_
    refine XS.aloadN X0.here hexec rfl (hb hbytes d3) rfl rfl ?_
    refine X0.alen hexec (hA.1.mv X0.warmed.alike hh0) rfl rfl (hb hbytes d4) ?_
    refine XS.aconstNull X0.here hexec rfl (hb hbytes d5) ?_
    exact Steps.refl _)
  obtain ⟨v3, T3, X3, E3, g3⟩ := X0.callN hexec (New4.law l a D fV fC b A z 0 A.slots.size) rfl hown (wks W (initW "java/lang/String" 27 New4.yN)) (W New4.tab (by simp only [site, List.mem_cons, List.mem_append, true_or, or_true])) (W := 0) (Nat.le_of_ble_eq_true rfl) (Nat.le_of_ble_eq_true rfl) (Nat.le_refl _) (by show 0 + A.slots.size ≤ A.slots.size; omega) (g := (mkF m 6 #[.val (.ref a), .val (.ref b)] [.null, .int (Int32.ofNat A.slots.size), .int (Int32.ofNat 0), .ref b, .ref a])) rfl (by rw [hml]; rfl) c2 (argsL := [.ref b, .int (Int32.ofNat 0), .int (Int32.ofNat A.slots.size), .null]) (rest := []) rfl rfl (by show 2 * 0 + 0 ≤ _; decide) (hb hbytes d6) (⟨rfl, hB.mv X0.warmed.alike hh0, f1.al X0.warmed.alike, f2.al X0.warmed.alike, hA.mv X0.warmed.alike hh0, s1.there X0.warmed.alike hh0, hz, l0, by omega, l2, fun i hi => by rw [Nat.zero_add]; exact hp i hi⟩)
  have e0 := Got.mv _ s₁ s _ _ hh0.symm (Vm.Alike.refl _) rfl E3
  obtain rfl := e0.1
  have c4 : Steps p.tables e below (s₁.setTop (entryFrame m #[.ref a, .ref b] 2)) (T3.setTop (mkF m 9 #[.val (.ref a), .val (.ref b)] [])) := g3
  exact ⟨T3, none, _, _, _, X3, by simp, rfl, by omega, (fun _ => rfl), e0, fun fs hl => c4.trans (X3.returnOut hexec hret (hb hbytes d9) hl)⟩
theorem pays {l : Launch} {R : Room} {p : Program} {e : Env} {below : List Frame} {s : State} {sargs : Array Value} {len W : Nat} (a : Addr) (D : Cell) (fV fC : Field) (b : Addr) (A : Cell) (z : Int32) (htab : tab.before sargs s = true) (hfr : 4 ≤ R.frames) (hlo : W + 65 ≤ R.locals) :
    Back l R p e below s sargs yN len W (fun A₁ a₁ => A₁.cells + 1 ≤ R.cells ∧ A₁.slots + A.slots.size ≤ R.slots ∧ P a D fV fC b A z a₁ A₁.U) (fun A₁ _ v₁ B₁ => E a D fV fC A v₁ A₁.U B₁.U ∧ B₁.locs = A₁.locs ++ [⟨a, fC.slot⟩, ⟨a, fV.slot⟩] ∧ B₁.cells = A₁.cells + 1 ∧ B₁.slots = A₁.slots + A.slots.size) :=
  (law l a D fV fC b A z).pays htab hfr (by omega)
end New1
/-- the byte, read back as charAt reads it, is the char -/
theorem lo8_mask {x : Int32} (h0 : ¬ x < 0) (h1 : ¬ 255 < x) : lo8 x &&& 255 = x := by
  have t : ∀ k : Fin 256, lo8 (Int32.ofNat k.val) &&& 255 = Int32.ofNat k.val := by decide +kernel
  rw [Int32.lt_iff_toInt_lt] at h0 h1
  have e0 : (0 : Int32).toInt = 0 := rfl
  have e1 : (255 : Int32).toInt = 255 := rfl
  obtain ⟨k, hk⟩ : ∃ k : Nat, x.toInt = k := ⟨x.toInt.toNat, by omega⟩
  have hx : x = Int32.ofNat k := Int32.toInt_inj.mp (by rw [hk, Int32.toInt_ofNat_small (by omega)])
  rw [hx]
  exact t ⟨k, by omega⟩
end StrChars
namespace StrChars.Road
open Jvm Sem ClassFile Op Lib Jvm.Stand Jvm.Free Jvm.Free.XT
open Jvm.Lib.Cold (StaticIs)
abbrev ST : String := "java/lang/String"
/-- every table word that New1's law asks, flat -/
abbrev words : List Jvm.Cond := [.code New1.yN New1.yB 2 none, .initialized ST, .methodLink ST 27 New4.yN, .instanceMethod New4.yN,
  .code New4.yN New4.yB 6 none, .fieldLink ST 38 ST "COMPACT_STRINGS" "Z", .laysFinal ST ST "value" "[B", .fieldLink ST 9 ST "value" "[B", .laysFinal ST ST "coder" "B", .fieldLink ST 15 ST "coder" "B",
  .methodLink ST 1 Lib.objectInit, .instanceMethod Lib.objectInit, .code Lib.objectInit ⟨#[0xb1]⟩ 1 none, .methodLink ST 177 Cmp3.yN, .static Cmp3.yN, .methodLink ST 47 CodL.yN, .static CodL.yN,
  .code Cmp3.yN Cmp3.yB 6 (some (.array .byte)), .initialized U16, .arrayClass .byte, .methodLink U16 115 Cmp5.yN, .static Cmp5.yN, .code Cmp5.yN Cmp5.yB 7 (some .int), .code CodL.yN CodL.yB 2 (some .byte)]
theorem tab_of {a : Array Value} {s : State} (h : ∀ w ∈ words, w.before a s = true) : New1.tab.before a s = true := by
  have h5 : Cmp5.tab.before a s = true := unparts (wk h (.code Cmp5.yN Cmp5.yB 7 (some .int))) (wks h (.initialized Cmp5.yN.cls :: Cmp5.site))
  have hc : CodL.tab.before a s = true := unparts (wk h (.code CodL.yN CodL.yB 2 (some .byte))) (wks h (.initialized CodL.yN.cls :: CodL.site))
  have q5 : ∀ w ∈ Cmp5.tab :: words, w.before a s = true := fun w hw => (List.mem_cons.mp hw).elim (fun e => e ▸ h5) (h w)
  have h3 : Cmp3.tab.before a s = true := unparts (wk q5 (.code Cmp3.yN Cmp3.yB 6 (some (.array .byte)))) (wks q5 (.initialized Cmp3.yN.cls :: Cmp3.site))
  have q3 : ∀ w ∈ Cmp3.tab :: CodL.tab :: words, w.before a s = true := fun w hw => (List.mem_cons.mp hw).elim (fun e => e ▸ h3) fun hw => (List.mem_cons.mp hw).elim (fun e => e ▸ hc) (h w)
  have h4 : New4.tab.before a s = true := unparts (wk q3 (.code New4.yN New4.yB 6 none)) (wks q3 (.initialized New4.yN.cls :: New4.site))
  have q4 : ∀ w ∈ New4.tab :: words, w.before a s = true := fun w hw => (List.mem_cons.mp hw).elim (fun e => e ▸ h4) (h w)
  exact unparts (wk q4 (.code New1.yN New1.yB 2 none)) (wks q4 (.initialized New1.yN.cls :: New1.site))
/-- the words ride from the start Z to the walk's own state -/
theorem moved {Z s : State} {a0 args : Array Value} (hZ : Z.Warmed39 s.vm) (hw : ∀ d ∈ words, d.before a0 Z = true) : ∀ d ∈ words, d.before args s = true := fun d hd => by
  have q := hw d hd
  have t : ∀ d ∈ words, d = .arrayClass .byte ∨ (d.onTables && d.keepsFace) = true := by decide +kernel
  rcases t d hd with rfl | t
  · exact RoadKit.mvA hZ q
  · exact RoadKit.mv hZ q t
/-- WHAT COMES BACK, over the tables of the start Z: h the heap at the call, h' behind it -/
def Q (Z : State) (x : Addr) (A : Cell) (h : Heap) (v : Option Value) (h' : Heap) (L : List Loc) : Prop := v = none ∧ (∀ y ∈ L, y.base = x) ∧ RoadKit.Keep h h' [x] ∧ h'.size = h.size + 1 ∧ RoadKit.Exa Z h' x ST ∧ RoadKit.Fld Z h' x ST "value" "[B" (.ref h.size) ∧ RoadKit.Fld Z h' x ST "coder" "B" (.int 0) ∧
  (∃ V : Cell, RoadKit.Arr Z h' h.size V .byte ∧ V.vm = .none ∧ Z.vm.findClass "[B" = some V.cls ∧ V.slots.size = A.slots.size ∧ ∀ j, j < A.slots.size → V.slots[j]? = some (.int (lo8 (cv A j)))) ∧
  ∀ (O n d : String) (w : Value), RoadKit.Fld Z h x O n d w → RoadKit.slotOf Z O n d ≠ RoadKit.slotOf Z ST "value" "[B" → RoadKit.slotOf Z O n d ≠ RoadKit.slotOf Z ST "coder" "B" → RoadKit.Fld Z h' x O n d w
/-- **new String(chars) AT A CALL, IN THE ROAD'S FORM**: for specialBack behind newO: x the fresh String, b the char[] with the cell A -/
theorem back {p : Program} {l : Launch} {e : Env} {R : Room} {s : State} {args : Array Value} {below : List Frame} {len W : Nat} {Z : State} {a0 : Array Value} {h : Heap} (hZ : Z.Warmed39 s.vm) (hw : ∀ d ∈ words, d.before a0 Z = true) {kI : Nat} (wi : (Jvm.Cond.instantiable ST kI).before a0 Z = true)
    {x b : Addr} {A : Cell} {z : Int32} {v0 c0 : Value} (E : RoadKit.Exa Z h x ST) (V : RoadKit.Fld Z h x ST "value" "[B" v0) (C : RoadKit.Fld Z h x ST "coder" "B" c0) (K : RoadKit.Arr Z h b A .char) (hty : Typed .char A) (S : RoadKit.Sta Z h ST "COMPACT_STRINGS" "Z" (.int z)) (hz : ¬ z = 0)
    (l0 : 0 < A.slots.size) (l2 : A.slots.size ≤ 536870912) (hp : ∀ i, i < A.slots.size → ¬ 255 < cv A i) (hfr : 4 ≤ R.frames) (hlo : W + 65 ≤ R.locals) :
    Back l R p e below s args New1.yN len W (fun P a => a = #[.ref x, .ref b] ∧ P.U.heap = h ∧ P.cells + 1 ≤ R.cells ∧ P.slots + A.slots.size ≤ R.slots)
      (fun P _ v B => ∃ L, Q Z x A h v B.U.heap L ∧ B.locs = P.locs ++ L ∧ B.cells = P.cells + 1 ∧ B.slots = P.slots + A.slots.size) := by
  intro m meth c P g ig mk a X hg hsize hdg hW hn hp'
  obtain ⟨rfl, rfl, r1, r2⟩ := hp'
  have al : Z.vm.Alike P.U.vm := hZ.alike.trans X.warmed.alike
  obtain ⟨D, cfV, kV, iV, fV, hD, gV, stV, knV, obV, asV, slV⟩ := id V
  obtain ⟨D', cfC, kC, iC, fC, hD', gC, stC, -, -, asC, slC⟩ := id C
  cases hD.symm.trans hD'
  obtain ⟨D2, kD, e1, e2, e3, e4, e5⟩ := id E
  cases hD.symm.trans e1
  obtain ⟨c2, k2, i1, i2, i3, -⟩ := Cond.instantiable_spec wi
  cases e2.symm.trans i1
  cases e3.symm.trans i2
  obtain ⟨kU, u1, u2⟩ := al.2.2 _ _ e3
  have hB : Blank ST x D P.U := ⟨hD, ⟨knV, fun q hq => by rw [hq] at obV; cases obV⟩, by rw [al.findClass]; exact e2, kU, u1, by rw [u2]; exact i3, by rw [u2]; exact e5 i3⟩
  have F1 : Found ST "value" "[B" fV P.U := ⟨SBG.found_only al ⟨cfV, kV, iV, gV⟩, stV⟩
  have F2 : Found ST "coder" "B" fC P.U := ⟨SBG.found_only al ⟨cfC, kC, iC, gC⟩, stC⟩
  have hA : Ch b A P.U := ⟨⟨K.1, State.isArrayOf_alike al K.2.1, K.2.2, by omega⟩, hty⟩
  have hS : StaticIs P.U ST "COMPACT_STRINGS" "Z" (.int z) := by
    obtain ⟨cfS, iS, kS, fS, st, cS, t1, t2, t3, t4, t5, t6, t7⟩ := S
    exact StaticIs.there (s := { Z with heap := P.U.heap }) ⟨cfS, iS, kS, fS, st, cS, t1, t2, t3, t4, t5, (fun q => by rw [q] at t6; cases t6), t7⟩ al rfl
  obtain ⟨v, B, X', ⟨⟨hv, E', V', q1, q2, q3, q4, q5, q6, q7, q8, q9, q10, q11⟩, hl, hc, hs⟩, st⟩ := New1.pays x D fV fC b A z (tab_of (moved hZ hw)) hfr hlo m meth c P g ig mk _ X hg hsize hdg hW hn ⟨r1, r2, rfl, hB, F1, F2, hA, hS, hz, l0, l2, hp⟩
  have al' : Z.vm.Alike B.U.vm := hZ.alike.trans X'.warmed.alike
  have hsz : E'.slots.size = D.slots.size := by
    obtain ⟨-, -, -, kB, w1, w2, w3⟩ := q1
    obtain ⟨kB', y1, y2⟩ := al'.2.2 _ _ e3
    rw [q2.2.1] at w1
    cases w1.symm.trans y1
    rw [w3, e5 i3, y2]
  refine ⟨v, B, X', ⟨_, ⟨hv, ?_, ⟨by omega, fun y cy hy hn' => q10 y cy (by simpa using hn') hy, fun y cy hy => ?_⟩, q11, ⟨E', _, q1.1, by rw [q2.2.1]; exact e2, by rw [q2.2.1]; exact e3, by rw [q2.1]; exact obV, fun _ => by rw [hsz]; exact e5 i3⟩,
    ⟨E', cfV, kV, iV, fV, q1.1, gV, stV, by rw [q2.1]; exact knV, by rw [q2.1]; exact obV, by rw [q2.2.1]; exact asV, q3⟩, ⟨E', cfC, kC, iC, fC, q1.1, gC, stC, by rw [q2.1]; exact knV, by rw [q2.1]; exact obV, by rw [q2.2.1]; exact asC, q4⟩,
    ⟨V', ⟨q5.1, State.isArrayOf_alike al'.symm q5.2.1, q5.2.2.1⟩, q6, by rw [← al'.findClass]; exact q7, q8, fun j hj => by have := q9 j hj; rwa [Nat.zero_add] at this⟩, fun O n d w F n1 n2 => ?_⟩, hl, hc, hs⟩, st⟩
  · intro y hy
    simp only [List.mem_cons, List.not_mem_nil, or_false] at hy
    rcases hy with rfl | rfl <;> rfl
  · by_cases q : y = x
    · subst q
      cases hD.symm.trans hy
      exact ⟨E', q1.1, q2.2.1, q2.1, hsz⟩
    · exact ⟨cy, q10 y cy q hy, rfl, rfl, rfl⟩
  · obtain ⟨D3, cf, k, i, f, g1, g2, g3, g4, g5, g6, g7⟩ := F
    cases hD.symm.trans g1
    simp only [RoadKit.slotOf, g2, gV, gC, Option.map_some, Option.getD_some] at n1 n2
    exact ⟨E', cf, k, i, f, q1.1, g2, g3, by rw [q2.1]; exact g4, by rw [q2.1]; exact g5, by rw [q2.2.1]; exact g6, by rw [q2.2.2 f.slot (by simp [n1, n2])]; exact g7⟩
end StrChars.Road
namespace StrChars.Road
open Jvm Sem ClassFile Op Lib Jvm.Stand Jvm.Free Jvm.Free.XT
/-- WHAT COMES BACK, the byte[] as a list of values -/
def QA (Z : State) (x : Addr) (zn : Int32) (cs : List Int32) (h : Heap) (v : Option Value) (h' : Heap) (L : List Loc) : Prop := v = none ∧ (∀ y ∈ L, y.base = x) ∧ RoadKit.Keep h h' [x] ∧ h'.size = h.size + 1 ∧ RoadKit.Exa Z h' x ST ∧ RoadKit.Fld Z h' x ST "value" "[B" (.ref h.size) ∧ RoadKit.Fld Z h' x ST "coder" "B" (.int 0) ∧
  (∃ kb, Z.vm.findClass "[B" = some kb ∧ RoadKit.Arv Z h' h.size kb .byte zn (cs.map fun c => .int (lo8 c)) (.int 0)) ∧
  ∀ (O n d : String) (w : Value), RoadKit.Fld Z h x O n d w → RoadKit.slotOf Z O n d ≠ RoadKit.slotOf Z ST "value" "[B" → RoadKit.slotOf Z O n d ≠ RoadKit.slotOf Z ST "coder" "B" → RoadKit.Fld Z h' x O n d w
/-- **new String(chars) AT A CALL, THE ARRAYS AS LISTS**: the char[] at b holds cs, not empty, no char above 255 -/
theorem backArv {p : Program} {l : Launch} {e : Env} {R : Room} {s : State} {args : Array Value} {below : List Frame} {len W : Nat} {Z : State} {a0 : Array Value} {h : Heap} (hZ : Z.Warmed39 s.vm) (hw : ∀ d ∈ words, d.before a0 Z = true) {kI : Nat} (wi : (Jvm.Cond.instantiable ST kI).before a0 Z = true)
    {x b : Addr} {k : ClassId} {zn z : Int32} {cs : List Int32} {dv v0 c0 : Value} (E : RoadKit.Exa Z h x ST) (V : RoadKit.Fld Z h x ST "value" "[B" v0) (C : RoadKit.Fld Z h x ST "coder" "B" c0) (K : RoadKit.Arv Z h b k .char zn (cs.map Value.int) dv) (S : RoadKit.Sta Z h ST "COMPACT_STRINGS" "Z" (.int z)) (hz : ¬ z = 0)
    (hlen : zn.toNatClampNeg = cs.length) (h0 : 0 < cs.length) (hbig : cs.length ≤ 536870912) (hall : ∀ c ∈ cs, ¬ 255 < c) (hfr : 4 ≤ R.frames) (hlo : W + 65 ≤ R.locals) :
    Back l R p e below s args New1.yN len W (fun P a => a = #[.ref x, .ref b] ∧ P.U.heap = h ∧ P.cells + 1 ≤ R.cells ∧ P.slots + cs.length ≤ R.slots)
      (fun P _ v B => ∃ L, QA Z x zn cs h v B.U.heap L ∧ B.locs = P.locs ++ L ∧ B.cells = P.cells + 1 ∧ B.slots = P.slots + cs.length) := by
  obtain ⟨A, K1, K2, K3, K4, K5, K6⟩ := K
  have e : A.slots.size = cs.length := K3.trans hlen
  have hat : ∀ (i : Nat) (hi : i < cs.length), A.slots[i]? = some (.int cs[i]) := fun i hi => by rw [K5 i (by omega)]; simp [List.getD_eq_getElem?_getD, hi]
  have hcv : ∀ (i : Nat) (hi : i < cs.length), cv A i = cs[i] := fun i hi => by unfold cv; rw [hat i hi]
  have hty : Typed .char A := fun i v hv => by
    have hi : i < A.slots.size := (Array.getElem?_eq_some_iff.mp hv).1
    have q := K5 i hi
    rw [hv] at q
    rw [Option.some.inj q]
    exact K6 i hi
  refine Back.mono (back hZ hw wi E V C K1 hty S hz (by omega) (by omega) (fun i hi => by rw [hcv i (by omega)]; exact hall _ (List.getElem_mem _)) hfr hlo) (fun P a hp => ⟨hp.1, hp.2.1, hp.2.2.1, by rw [e]; exact hp.2.2.2⟩) (fun P a v B hp hq => ?_)
  obtain ⟨L, ⟨q1, q2, q3, q4, q5, q6, q7, ⟨V', v1, v2, v3, v4, v5⟩, q9⟩, hl, hc, hs⟩ := hq
  refine ⟨L, ⟨q1, q2, q3, q4, q5, q6, q7, ⟨V'.cls, v3, V', v1, rfl, by rw [v4, e, hlen], K4, fun i hi => ?_, fun i hi => ?_⟩, q9⟩, hl, hc, by rw [hs, e]⟩
  · have hi' : i < cs.length := by omega
    rw [v5 i (by omega), hcv i hi']; simp [List.getD_eq_getElem?_getD, hi']
  · have hi' : i < cs.length := by omega
    simp only [List.getD_eq_getElem?_getD, List.getElem?_map, List.getElem?_eq_getElem hi', Option.map_some, Option.getD_some]
    exact fits_lo8 _
end StrChars.Road
namespace StrChars.Road
open Jvm Sem ClassFile Op Lib Jvm.Stand Jvm.Free Jvm.Free.XT
/-- WHAT COMES BACK, in the writer's own shape -/
def QV (Z : State) (x : Addr) (N : Int32) (bs : List Int32) (h : Heap) (n0 : Nat) (v : Option Value) (h' : Heap) (L : List Loc) : Prop := v = none ∧ RoadKit.Fr n0 L ∧ RoadKit.Keep h h' [x] ∧ RoadKit.Exa Z h' x ST ∧ RoadKit.Fld Z h' x ST "coder" "B" (.int 0) ∧
  ∃ (t : Addr) (kb : ClassId), n0 ≤ t ∧ h.size ≤ t ∧ ¬ t = x ∧ RoadKit.Fld Z h' x ST "value" "[B" (.ref t) ∧ RoadKit.Arv Z h' t kb .byte N (bs.map Value.int) (.int 0)
/-- **new String(chars) AT A CALL, FOR THE WRITER**: a char[] of n known ints, each 0 to 255 -/
theorem backV {p : Program} {l : Launch} {e : Env} {R : Room} {s : State} {args : Array Value} {below : List Frame} {len W : Nat} {Z : State} {a0 : Array Value} {h : Heap} (hZ : Z.Warmed39 s.vm) (hw : ∀ d ∈ words, d.before a0 Z = true) {kI : Nat} (wi : (Jvm.Cond.instantiable ST kI).before a0 Z = true)
    {x b : Addr} {kC : ClassId} {cs bs : List Int32} {d v0 c0 : Value} {z N : Int32} {n n0 : Nat} (hx0 : n0 ≤ x) (hh0 : n0 ≤ h.size) (E : RoadKit.Exa Z h x ST) (V : RoadKit.Fld Z h x ST "value" "[B" v0) (C : RoadKit.Fld Z h x ST "coder" "B" c0) (K : RoadKit.Arv Z h b kC .char N (cs.map Value.int) d) (S : RoadKit.Sta Z h ST "COMPACT_STRINGS" "Z" (.int z)) (hz : ¬ z = 0)
    (hn : cs.length = n) (hN : N = Int32.ofNat n) (l0 : 0 < n) (l2 : n ≤ 4000) (hp : ∀ c ∈ cs, ¬ c < 0 ∧ ¬ (255 : Int32) < c) (hb : bs = cs.map (fun c => c.toInt8.toInt32)) (hfr : 4 ≤ R.frames) (hlo : W + 65 ≤ R.locals) :
    Back l R p e below s args (⟨"java/lang/String", "<init>", "([C)V"⟩ : MethodName) len W (fun P a => a = #[.ref x, .ref b] ∧ P.U.heap = h ∧ P.cells + 1 ≤ R.cells ∧ P.slots + n ≤ R.slots)
      (fun P _ v B => ∃ L, QV Z x N bs h n0 v B.U.heap L ∧ B.locs = P.locs ++ L ∧ B.cells = P.cells + 1 ∧ B.slots = P.slots + n) := by
  subst hn hN hb
  refine Back.mono (backArv hZ hw wi E V C K S hz (n32 (by omega)) l0 (by omega) (fun c hc => (hp c hc).2) hfr hlo) (fun P a hp => hp) (fun P a v B hp hq => ?_)
  obtain ⟨L, ⟨q1, q2, q3, q4, q5, q6, q7, ⟨kb, v1, v2⟩, q9⟩, hl, hc, hs⟩ := hq
  exact ⟨L, ⟨q1, fun y hy => by rw [q2 y hy]; exact hx0, q3, q5, q7, h.size, kb, hh0, Nat.le_refl _, Nat.ne_of_gt E.lt, q6, by rw [List.map_map]; exact v2⟩, hl, hc, hs⟩
end StrChars.Road
namespace StrChars
open Jvm Sem ClassFile Op Lib Jvm.Stand Jvm.Free.XT Jvm.Free.ALB Jvm.Free.JM Jvm.Free
open Jvm.Lib.Cold (StaticIs)
def hi8 (x : Int32) : Int32 := lo8 (x >>> ((8 : Int32) &&& 31))
/-- what StringUTF16.getChar makes of two bytes -/
def pairCh (u v : Int32) : Int32 := (((u &&& 255) <<< ((0 : Int32) &&& 31)) ||| ((v &&& 255) <<< ((8 : Int32) &&& 31))).toUInt32.toUInt16.toUInt32.toInt32
theorem shr0 (c : Int32) : c >>> ((0 : Int32) &&& 31) = c := by
  have e : ((0 : Int32) &&& 31) = 0 := by decide
  rw [e]
  apply Int32.toBitVec_inj.mp
  rw [Int32.toBitVec_shiftRight]
  have e1 : ((0 : Int32).toBitVec.smod 32) = 0#32 := by decide
  rw [e1, BitVec.sshiftRight_eq']
  exact BitVec.sshiftRight_zero
theorem lo8_and (x : Int32) : (lo8 x &&& 255).toBitVec.toNat = x.toBitVec.toNat % 256 := by
  have h : (lo8 x).toBitVec = (x.toBitVec.signExtend 8).signExtend 32 := by rw [lo8, Int8.toBitVec_toInt32, Int32.toBitVec_toInt8]
  rw [Int32.toBitVec_and, BitVec.toNat_and, h]
  have e : ((x.toBitVec.signExtend 8).signExtend 32).toNat % 256 = x.toBitVec.toNat % 256 := by
    rw [BitVec.toNat_signExtend]
    have hlt := x.toBitVec.isLt
    simp only [BitVec.toNat_setWidth, BitVec.toNat_signExtend]
    split <;> split <;> omega
  rw [← e]
  exact Nat.and_two_pow_sub_one_eq_mod _ 8
theorem pair_says {c : Int32} (h0 : ¬ c < 0) (h1 : ¬ 65535 < c) : pairCh (lo8 c) (hi8 c) = c := by
  rw [Int32.lt_iff_toInt_lt] at h0 h1
  have e0 : (0 : Int32).toInt = 0 := rfl
  have e1 : (65535 : Int32).toInt = 65535 := rfl
  have hc : c.toInt = c.toBitVec.toNat := by
    have := c.toBitVec.isLt
    have e : c.toInt = c.toBitVec.toInt := rfl
    rw [e] at h0 h1
    rw [e]
    rw [BitVec.toInt_eq_toNat_cond] at h0 h1 ⊢
    split at h0 <;> split <;> omega
  have hn : c.toBitVec.toNat < 65536 := by omega
  have a1 := lo8_and c
  have a2 : (hi8 c &&& 255).toBitVec.toNat = c.toBitVec.toNat / 256 := by
    rw [hi8, lo8_and]
    have e : ((8 : Int32) &&& 31) = 8 := by decide
    rw [e, Int32.toBitVec_shiftRight]
    have e2 : ((8 : Int32).toBitVec.smod 32) = 8#32 := by decide
    rw [e2, BitVec.sshiftRight_eq', BitVec.toNat_sshiftRight_of_msb_false (by rw [BitVec.msb_eq_false_iff_two_mul_lt]; omega)]
    show c.toBitVec.toNat >>> 8 % 256 = _
    rw [Nat.shiftRight_eq_div_pow]
    omega
  unfold pairCh
  apply Int32.toBitVec_inj.mp
  apply BitVec.eq_of_toNat_eq
  have f0 : ((0 : Int32) &&& 31) = 0 := by decide
  have f8 : ((8 : Int32) &&& 31) = 8 := by decide
  rw [f0, f8]
  have g : (((lo8 c &&& 255) <<< (0 : Int32)) ||| ((hi8 c &&& 255) <<< (8 : Int32))).toBitVec.toNat = c.toBitVec.toNat := by
    rw [Int32.toBitVec_or, Int32.toBitVec_shiftLeft, Int32.toBitVec_shiftLeft]
    have s0 : ((0 : Int32).toBitVec.smod 32) = 0#32 := by decide
    have s8 : ((8 : Int32).toBitVec.smod 32) = 8#32 := by decide
    rw [s0, s8, BitVec.toNat_or]
    simp only [BitVec.shiftLeft_eq', BitVec.toNat_shiftLeft, a1, a2]
    show (c.toBitVec.toNat % 256) <<< 0 % 2 ^ 32 ||| (c.toBitVec.toNat / 256) <<< 8 % 2 ^ 32 = _
    rw [Nat.shiftLeft_zero, Nat.mod_eq_of_lt (show c.toBitVec.toNat % 256 < 2 ^ 32 by omega), Nat.mod_eq_of_lt (show (c.toBitVec.toNat / 256) <<< 8 < 2 ^ 32 by rw [Nat.shiftLeft_eq]; omega), Nat.or_comm, ← Nat.shiftLeft_add_eq_or_of_lt (by omega), Nat.shiftLeft_eq]
    omega
  show BitVec.toNat (((((lo8 c &&& 255) <<< (0 : Int32)) ||| ((hi8 c &&& 255) <<< (8 : Int32))).toBitVec.setWidth 16).setWidth 32) = _
  rw [BitVec.toNat_setWidth, BitVec.toNat_setWidth, g]
  omega
end StrChars
namespace StrChars
open Jvm Sem ClassFile Op Lib Jvm.Stand Jvm.Free.XT Jvm.Free.ALB Jvm.Free.JM Jvm.Free
open Jvm.Lib.Cold (StaticIs)
theorem shr1 {n : Nat} (h : 2 * n < 2 ^ 31) : Int32.ofNat (2 * n) >>> ((1 : Int32) &&& 31) = Int32.ofNat n := by
  have e : ((1 : Int32) &&& 31) = 1 := by decide
  rw [e]
  apply Int32.toBitVec_inj.mp
  rw [Int32.toBitVec_shiftRight]
  have e1 : ((1 : Int32).toBitVec.smod 32) = 1#32 := by decide
  have hm : (BitVec.ofNat 32 (2 * n)).toNat = 2 * n := by rw [BitVec.toNat_ofNat, Nat.mod_eq_of_lt (by omega)]
  rw [e1, BitVec.sshiftRight_eq']
  apply BitVec.eq_of_toNat_eq
  show ((BitVec.ofNat 32 (2 * n)).sshiftRight 1).toNat = (BitVec.ofNat 32 n).toNat
  rw [BitVec.toNat_sshiftRight_of_msb_false (by rw [BitVec.msb_eq_false_iff_two_mul_lt, hm]; omega), hm, BitVec.toNat_ofNat, Nat.shiftRight_eq_div_pow]
  omega
/-- charAt's cast of a byte read back -/
def chr8 (u : Int32) : Int32 := (u &&& 255).toUInt32.toUInt16.toUInt32.toInt32
theorem chr8_lo8 {c : Int32} (h0 : ¬ c < 0) (h1 : ¬ 255 < c) : chr8 (lo8 c) = c := by
  have t : ∀ k : Fin 256, (Int32.ofNat k.val).toUInt32.toUInt16.toUInt32.toInt32 = Int32.ofNat k.val := by decide +kernel
  unfold chr8
  rw [lo8_mask h0 h1]
  rw [Int32.lt_iff_toInt_lt] at h0 h1
  have e0 : (0 : Int32).toInt = 0 := rfl
  have e1 : (255 : Int32).toInt = 255 := rfl
  obtain ⟨k, hk⟩ : ∃ k : Nat, c.toInt = k := ⟨c.toInt.toNat, by omega⟩
  have hx : c = Int32.ofNat k := Int32.toInt_inj.mp (by rw [hk, Int32.toInt_ofNat_small (by omega)])
  rw [hx]
  exact t ⟨k, by omega⟩
theorem narrow_ch {c : Int32} (h0 : ¬ c < 0) (h1 : ¬ 65535 < c) : narrow .char (.int c) = .int c := by
  have q : narrow .char (.int (pairCh (lo8 c) (hi8 c))) = .int (pairCh (lo8 c) (hi8 c)) := narrow_c _
  rwa [pair_says h0 h1] at q
/-- the array's cell V codes the n chars f 0 .. f (n - 1) by the coder cd, as the JDK does: coder 1 just where some char is above 255 -/
def Cod (cd : Int32) (n : Nat) (f : Nat → Int32) (V : Cell) : Prop := (cd = 0 ∧ V.slots.size = n ∧ ∀ j, j < n → V.slots[j]? = some (.int (lo8 (f j))) ∧ ¬ 255 < f j) ∨ (cd = 1 ∧ V.slots.size = 2 * n ∧ (∀ j, j < n → V.slots[2 * j]? = some (.int (lo8 (f j))) ∧ V.slots[2 * j + 1]? = some (.int (hi8 (f j)))) ∧ ∃ j, j < n ∧ 255 < f j)
theorem Cod.cd {cd : Int32} {n : Nat} {f : Nat → Int32} {V : Cell} (h : Cod cd n f V) : cd = 0 ∨ cd = 1 := h.imp (fun q => q.1) fun q => q.1
theorem Cod.len {cd : Int32} {n : Nat} {f : Nat → Int32} {V : Cell} (h : Cod cd n f V) (hs : V.slots.size < 2 ^ 31) : Int32.ofNat V.slots.size >>> (cd &&& 31) = Int32.ofNat n := by
  rcases h with ⟨rfl, h, -⟩ | ⟨rfl, h, -⟩
  · rw [shr0, h]
  · rw [h, shr1 (by omega)]
/-- **x is a String of the n chars f 0 .. f (n - 1)**, Latin-1 or UTF-16; its array at t has the cell V -/
def Txt (x t : Addr) (V : Cell) (cd : Int32) (n : Nat) (f : Nat → Int32) (U : State) : Prop := Exact "java/lang/String" x U ∧ Has x "java/lang/String" "value" "[B" (.ref t) U ∧ Has x "java/lang/String" "coder" "B" (.int cd) U ∧ XT.Arr .byte t V U ∧ Cod cd n f V ∧ ∀ j, j < n → ¬ f j < 0 ∧ ¬ 65535 < f j
theorem Txt.mv {x t : Addr} {V : Cell} {cd : Int32} {n : Nat} {f : Nat → Int32} {U U' : State} (h : Txt x t V cd n f U) (hal : U.vm.Alike U'.vm) (hh : U'.heap = U.heap) : Txt x t V cd n f U' := ⟨h.1.mv hal hh, h.2.1.mv hal hh, h.2.2.1.mv hal hh, h.2.2.2.1.mv hal hh, h.2.2.2.2⟩
namespace Cdr
def yN : MethodName := ⟨"java/lang/String", "coder", "()B"⟩
abbrev yB : ByteArray := jdk_42_method_152_code
theorem d0 : decode yB 0 = .ok (.getstatic 38, 3) := by decide +kernel
theorem d3 : decode yB 3 = .ok (.ifCond (.eq) 10, 3) := by decide +kernel
theorem d6 : decode yB 6 = .ok (.aload_n 0, 1) := by decide +kernel
theorem d7 : decode yB 7 = .ok (.getfield 15, 3) := by decide +kernel
theorem d10 : decode yB 10 = .ok (.goto 4, 3) := by decide +kernel
theorem d14 : decode yB 14 = .ok (.ireturn, 1) := by decide +kernel
def site : List Cond := [.fieldLink "java/lang/String" 38 "java/lang/String" "COMPACT_STRINGS" "Z", .fieldLink "java/lang/String" 15 "java/lang/String" "coder" "B"]
def tab : Cond := tabOf yN yB 1 (some .byte) site
def P (x : Addr) (cd z : Int32) (args : Array Value) (s : State) : Prop := args = #[.ref x] ∧ Has x "java/lang/String" "coder" "B" (.int cd) s ∧ (cd = 0 ∨ cd = 1) ∧ StaticIs s "java/lang/String" "COMPACT_STRINGS" "Z" (.int z) ∧ ¬ z = 0
def E (cd : Int32) (r : Option Value) (s u : State) : Prop := XT.PureE (some (.int cd)) r s u
theorem law (l : Launch) (x : Addr) (cd z : Int32) : Law l yN 1 0 0 0 yB 1 (some .byte) site (P x cd z) (E cd) [] 0 0 := by
  refine Law.of_walk (plainFor_of_name (by decide +kernel)) (by decide +kernel) (by decide +kernel) (by decide) (fun _ _ h => by rw [h.1]; rfl) (fun _ U U' hal hh h => ⟨h.1, h.2.1.mv hal hh, h.2.2.1, h.2.2.2.1.there hal hh, h.2.2.2.2⟩) (fun r U U' V V' h1 hal h2 h => XT.PureE.mv r U U' V V' h1 hal h2 h) ?_
  intro p e s m args below meth c s₁ X0 hexec hbytes hml hret hlk hnm hown hh0 W hP
  obtain ⟨rfl, hx, hc, s1, hz⟩ := hP
  have c1 : Steps p.tables e below (s₁.setTop (entryFrame m #[.ref x] 1)) (s₁.setTop (mkF m 0 #[.val (.ref x)] [])) := entry rfl
  obtain ⟨T2, X2, q2, st2⟩ := X0.sget hexec hown (wk W (.fieldLink "java/lang/String" 38 "java/lang/String" "COMPACT_STRINGS" "Z")) s1 (fun _ _ h => by rw [hh0]; exact h) (g := (mkF m 0 #[.val (.ref x)] [])) rfl (hb hbytes d0)
  have hh2 := q2.trans hh0
  have c3 : Steps p.tables e below (s₁.setTop (entryFrame m #[.ref x] 1)) (T2.setTop (mkF m 7 #[.val (.ref x)] [.ref x])) := (c1.trans (st2 _ (Steps.refl _))).trans (by
    refine XS.ifNo X2.here hexec rfl (hb hbytes d3) rfl (i0_eq_f hz) ?_
    refine XS.aloadN X2.here hexec rfl (hb hbytes d6) rfl rfl ?_
    exact Steps.refl _)
  obtain ⟨T4, X4, q4, st4⟩ := X2.hget hexec hown (wk W (.fieldLink "java/lang/String" 15 "java/lang/String" "coder" "B")) (hx.mv X2.warmed.alike hh2) (g := (mkF m 7 #[.val (.ref x)] [.ref x])) rfl (rest := []) rfl (hb hbytes d7)
  have c5 : Steps p.tables e below (s₁.setTop (entryFrame m #[.ref x] 1)) (T4.setTop (mkF m 14 #[.val (.ref x)] [.int cd])) := (c3.trans (st4 _ (Steps.refl _))).trans (by
    refine XS.goto X4.here hexec rfl (pc0 := 10) rfl (hb hbytes d10) (by decide) rfl ?_
    exact Steps.refl _)
  exact ⟨T4, some (.int cd), _, _, _, X4, rfl, rfl, rfl, (fun h => by cases h), ⟨rfl, q4.trans hh2⟩, fun fs hl => c5.trans (X4.ireturnOut hexec hret (by rcases hc with rfl | rfl <;> rfl) (Or.inr (Or.inr (Or.inl rfl))) (hb hbytes d14) hl)⟩
end Cdr
namespace Len
def yN : MethodName := ⟨"java/lang/String", "length", "()I"⟩
abbrev yB : ByteArray := jdk_42_method_54_code
theorem d0 : decode yB 0 = .ok (.aload_n 0, 1) := by decide +kernel
theorem d1 : decode yB 1 = .ok (.getfield 9, 3) := by decide +kernel
theorem d4 : decode yB 4 = .ok (.arraylength, 1) := by decide +kernel
theorem d5 : decode yB 5 = .ok (.aload_n 0, 1) := by decide +kernel
theorem d6 : decode yB 6 = .ok (.invokevirtual 335, 3) := by decide +kernel
theorem d9 : decode yB 9 = .ok (.ishr, 1) := by decide +kernel
theorem d10 : decode yB 10 = .ok (.ireturn, 1) := by decide +kernel
def site : List Cond := [.fieldLink "java/lang/String" 9 "java/lang/String" "value" "[B", Cdr.tab] ++ virtW "java/lang/String" 335 "java/lang/String" Cdr.yN Cdr.yN
def tab : Cond := tabOf yN yB 1 (some .int) site
def P (x t : Addr) (V : Cell) (cd : Int32) (n : Nat) (f : Nat → Int32) (z : Int32) (args : Array Value) (s : State) : Prop := args = #[.ref x] ∧ Txt x t V cd n f s ∧ StaticIs s "java/lang/String" "COMPACT_STRINGS" "Z" (.int z) ∧ ¬ z = 0
def E (n : Nat) (r : Option Value) (s u : State) : Prop := XT.PureE (some (.int (Int32.ofNat n))) r s u
/-- length() of a String of n chars, in either coding -/
theorem law (l : Launch) (x t : Addr) (V : Cell) (cd : Int32) (n : Nat) (f : Nat → Int32) (z : Int32) : Law l yN 1 0 1 13 yB 1 (some .int) site (P x t V cd n f z) (E n) [] 0 0 := by
  refine Law.of_walk (plainFor_of_name (by decide +kernel)) (by decide +kernel) (by decide +kernel) (by decide) (fun _ _ h => by rw [h.1]; rfl) (fun _ U U' hal hh h => ⟨h.1, h.2.1.mv hal hh, h.2.2.1.there hal hh, h.2.2.2⟩) (fun r U U' V V' h1 hal h2 h => XT.PureE.mv r U U' V V' h1 hal h2 h) ?_
  intro p e s m args below meth c s₁ X0 hexec hbytes hml hret hlk hnm hown hh0 W hP
  obtain ⟨rfl, hx, s1, hz⟩ := hP
  have v31 := hx.2.2.2.1.2.2.2
  have c1 : Steps p.tables e below (s₁.setTop (entryFrame m #[.ref x] 1)) (s₁.setTop (mkF m 1 #[.val (.ref x)] [.ref x])) := Steps.trans (entry rfl) (by
    show Steps p.tables e below (s₁.setTop (mkF m 0 #[.val (.ref x)] [])) _
    refine XS.aloadN X0.here hexec rfl (hb hbytes d0) rfl rfl ?_
    exact Steps.refl _)
  obtain ⟨T2, X2, q2, st2⟩ := X0.hget hexec hown (wk W (.fieldLink "java/lang/String" 9 "java/lang/String" "value" "[B")) (hx.mv X0.warmed.alike hh0).2.1 (g := (mkF m 1 #[.val (.ref x)] [.ref x])) rfl (rest := []) rfl (hb hbytes d1)
  have hh2 := q2.trans hh0
  have hx2 := hx.mv X2.warmed.alike hh2
  have c3 : Steps p.tables e below (s₁.setTop (entryFrame m #[.ref x] 1)) (T2.setTop (mkF m 6 #[.val (.ref x)] [.ref x, .int (Int32.ofNat V.slots.size)])) := (c1.trans (st2 _ (Steps.refl _))).trans (by
    refine X2.alen hexec hx2.2.2.2.1 rfl rfl (hb hbytes d4) ?_
    refine XS.aloadN X2.here hexec rfl (hb hbytes d5) rfl rfl ?_
    exact Steps.refl _)
  obtain ⟨v4, T4, X4, E4, g4⟩ := X2.callV hexec (Cdr.law l x cd z) hown (wks W (virtW "java/lang/String" 335 "java/lang/String" Cdr.yN Cdr.yN)) rfl (by decide) (wk W Cdr.tab) (W := 1) (Nat.le_of_ble_eq_true rfl) (Nat.le_of_ble_eq_true rfl) (Nat.le_refl _) (Nat.le_refl _) (hx2.1.fc X2.warmed.alike) hx2.1.is (g := (mkF m 6 #[.val (.ref x)] [.ref x, .int (Int32.ofNat V.slots.size)])) rfl (by rw [hml]; rfl) c3 (argsL := []) (rest := [.int (Int32.ofNat V.slots.size)]) rfl rfl (by show 2 * 0 + (1 + 0) ≤ _; decide) (hb hbytes d6) (⟨rfl, hx2.2.2.1, hx.2.2.2.2.1.cd, s1.there X2.warmed.alike hh2, hz⟩)
  obtain ⟨rfl, q4⟩ := E4
  have c5 : Steps p.tables e below (s₁.setTop (entryFrame m #[.ref x] 1)) (T4.setTop (mkF m 10 #[.val (.ref x)] [.int (Int32.ofNat V.slots.size >>> (cd &&& 31))])) := Steps.trans g4 (by
    refine ishr X4.here hexec rfl (hb hbytes d9) rfl ?_
    exact Steps.refl _)
  rw [hx.2.2.2.2.1.len v31] at c5
  exact ⟨T4, some (.int (Int32.ofNat n)), _, _, _, X4, rfl, rfl, rfl, (fun h => by cases h), ⟨rfl, q4.trans hh2⟩, fun fs hl => c5.trans (X4.ireturnOut hexec hret rfl (Or.inl rfl) (hb hbytes d10) hl)⟩
theorem pays {l : Launch} {R : Room} {p : Program} {e : Env} {below : List Frame} {s : State} {sargs : Array Value} {len W : Nat} (x t : Addr) (V : Cell) (cd : Int32) (n : Nat) (f : Nat → Int32) (z : Int32) (htab : tab.before sargs s = true) (hfr : 2 ≤ R.frames) (hlo : W + 25 ≤ R.locals) :
    Back l R p e below s sargs yN len W (fun A₁ a₁ => A₁.cells + 0 ≤ R.cells ∧ A₁.slots + 0 ≤ R.slots ∧ P x t V cd n f z a₁ A₁.U) (fun A₁ _ v₁ B₁ => E n v₁ A₁.U B₁.U ∧ B₁.locs = A₁.locs ++ [] ∧ B₁.cells = A₁.cells + 0 ∧ B₁.slots = A₁.slots + 0) :=
  (law l x t V cd n f z).pays htab hfr (by omega)
end Len
namespace IsL
def yN : MethodName := ⟨"java/lang/String", "isLatin1", "()Z"⟩
abbrev yB : ByteArray := jdk_42_method_154_code
theorem d0 : decode yB 0 = .ok (.getstatic 38, 3) := by decide +kernel
theorem d3 : decode yB 3 = .ok (.ifCond (.eq) 14, 3) := by decide +kernel
theorem d6 : decode yB 6 = .ok (.aload_n 0, 1) := by decide +kernel
theorem d7 : decode yB 7 = .ok (.getfield 15, 3) := by decide +kernel
theorem d10 : decode yB 10 = .ok (.ifCond (.ne) 7, 3) := by decide +kernel
theorem d13 : decode yB 13 = .ok (.iconst 1, 1) := by decide +kernel
theorem d14 : decode yB 14 = .ok (.goto 4, 3) := by decide +kernel
theorem d17 : decode yB 17 = .ok (.iconst 0, 1) := by decide +kernel
theorem d18 : decode yB 18 = .ok (.ireturn, 1) := by decide +kernel
def site : List Cond := [.fieldLink "java/lang/String" 38 "java/lang/String" "COMPACT_STRINGS" "Z", .fieldLink "java/lang/String" 15 "java/lang/String" "coder" "B"]
def tab : Cond := tabOf yN yB 1 (some .boolean) site
def P (x : Addr) (cd z : Int32) (args : Array Value) (s : State) : Prop := args = #[.ref x] ∧ Has x "java/lang/String" "coder" "B" (.int cd) s ∧ (cd = 0 ∨ cd = 1) ∧ StaticIs s "java/lang/String" "COMPACT_STRINGS" "Z" (.int z) ∧ ¬ z = 0
def E (cd : Int32) (r : Option Value) (s u : State) : Prop := XT.PureE (some (.int (1 - cd))) r s u
theorem law (l : Launch) (x : Addr) (cd z : Int32) : Law l yN 1 0 0 0 yB 1 (some .boolean) site (P x cd z) (E cd) [] 0 0 := by
  refine Law.of_walk (plainFor_of_name (by decide +kernel)) (by decide +kernel) (by decide +kernel) (by decide) (fun _ _ h => by rw [h.1]; rfl) (fun _ U U' hal hh h => ⟨h.1, h.2.1.mv hal hh, h.2.2.1, h.2.2.2.1.there hal hh, h.2.2.2.2⟩) (fun r U U' V V' h1 hal h2 h => XT.PureE.mv r U U' V V' h1 hal h2 h) ?_
  intro p e s m args below meth c s₁ X0 hexec hbytes hml hret hlk hnm hown hh0 W hP
  obtain ⟨rfl, hx, hc, s1, hz⟩ := hP
  have c1 : Steps p.tables e below (s₁.setTop (entryFrame m #[.ref x] 1)) (s₁.setTop (mkF m 0 #[.val (.ref x)] [])) := entry rfl
  obtain ⟨T2, X2, q2, st2⟩ := X0.sget hexec hown (wk W (.fieldLink "java/lang/String" 38 "java/lang/String" "COMPACT_STRINGS" "Z")) s1 (fun _ _ h => by rw [hh0]; exact h) (g := (mkF m 0 #[.val (.ref x)] [])) rfl (hb hbytes d0)
  have hh2 := q2.trans hh0
  have c3 : Steps p.tables e below (s₁.setTop (entryFrame m #[.ref x] 1)) (T2.setTop (mkF m 7 #[.val (.ref x)] [.ref x])) := (c1.trans (st2 _ (Steps.refl _))).trans (by
    refine XS.ifNo X2.here hexec rfl (hb hbytes d3) rfl (i0_eq_f hz) ?_
    refine XS.aloadN X2.here hexec rfl (hb hbytes d6) rfl rfl ?_
    exact Steps.refl _)
  obtain ⟨T4, X4, q4, st4⟩ := X2.hget hexec hown (wk W (.fieldLink "java/lang/String" 15 "java/lang/String" "coder" "B")) (hx.mv X2.warmed.alike hh2) (g := (mkF m 7 #[.val (.ref x)] [.ref x])) rfl (rest := []) rfl (hb hbytes d7)
  have c5 : Steps p.tables e below (s₁.setTop (entryFrame m #[.ref x] 1)) (T4.setTop (mkF m 10 #[.val (.ref x)] [.int cd])) := c3.trans (st4 _ (Steps.refl _))
  have c6 : Steps p.tables e below (s₁.setTop (entryFrame m #[.ref x] 1)) (T4.setTop (mkF m 18 #[.val (.ref x)] [.int (1 - cd)])) := by
    rcases hc with rfl | rfl
    · exact c5.trans (by
        refine XS.ifNo X4.here hexec rfl (hb hbytes d10) rfl (i0_ne_f rfl) ?_
        refine iconstV X4.here hexec rfl 1 (hb hbytes d13) (by decide) ?_
        refine XS.goto X4.here hexec rfl (pc0 := 14) rfl (hb hbytes d14) (by decide) rfl ?_
        exact Steps.refl _)
    · exact c5.trans (by
        refine XS.ifYes X4.here hexec rfl (pc0 := 10) rfl (hb hbytes d10) rfl (i0_ne_t (by decide)) (by decide) rfl ?_
        refine iconstV X4.here hexec rfl 0 (hb hbytes d17) (by decide) ?_
        exact Steps.refl _)
  exact ⟨T4, some (.int (1 - cd)), _, _, _, X4, rfl, rfl, rfl, (fun h => by cases h), ⟨rfl, q4.trans hh2⟩, fun fs hl => c6.trans (X4.ireturnOut hexec hret (by rcases hc with rfl | rfl <;> rfl) (Or.inr (Or.inl rfl)) (hb hbytes d18) hl)⟩
end IsL
namespace LChA
def yN : MethodName := ⟨"java/lang/StringLatin1", "charAt", "([BI)C"⟩
abbrev yB : ByteArray := jdk_43_method_2_code
theorem d0 : decode yB 0 = .ok (.iload_n 1, 1) := by decide +kernel
theorem d1 : decode yB 1 = .ok (.aload_n 0, 1) := by decide +kernel
theorem d2 : decode yB 2 = .ok (.arraylength, 1) := by decide +kernel
theorem d3 : decode yB 3 = .ok (.invokestatic 9, 3) := by decide +kernel
theorem d6 : decode yB 6 = .ok (.aload_n 0, 1) := by decide +kernel
theorem d7 : decode yB 7 = .ok (.iload_n 1, 1) := by decide +kernel
theorem d8 : decode yB 8 = .ok (.baload, 1) := by decide +kernel
theorem d9 : decode yB 9 = .ok (.sipush 255, 3) := by decide +kernel
theorem d12 : decode yB 12 = .ok (.iand, 1) := by decide +kernel
theorem d13 : decode yB 13 = .ok (.i2c, 1) := by decide +kernel
theorem d14 : decode yB 14 = .ok (.ireturn, 1) := by decide +kernel
def site : List Cond := [JO.Str_checkIndex.tab] ++ staticW "java/lang/StringLatin1" 9 JO.Str_checkIndex.yN
def tab : Cond := tabOf yN yB 2 (some .char) site
def P (t : Addr) (V : Cell) (i : Nat) (u : Int32) (fm : Value) (args : Array Value) (s : State) : Prop := args = #[.ref t, .int (Int32.ofNat i)] ∧ XT.Arr .byte t V s ∧ V.slots[i]? = some (.int u) ∧ (StaticIs s "jdk/internal/util/Preconditions" "SIOOBE_FORMATTER" "Ljava/util/function/BiFunction;" fm ∧ fm.isRef = true)
def E (u : Int32) (r : Option Value) (s w : State) : Prop := XT.PureE (some (.int (chr8 u))) r s w
theorem law (l : Launch) (t : Addr) (V : Cell) (i : Nat) (u : Int32) (fm : Value) : Law l yN 2 2 2 27 yB 2 (some .char) site (P t V i u fm) (E u) [] 0 0 := by
  refine Law.of_walk (plainFor_of_name (by decide +kernel)) (by decide +kernel) (by decide +kernel) (by decide) (fun _ _ h => by rw [h.1]; rfl) (fun _ U U' hal hh h => ⟨h.1, h.2.1.mv hal hh, h.2.2.1, h.2.2.2.1.there hal hh, h.2.2.2.2⟩) (fun r U U' V V' h1 hal h2 h => XT.PureE.mv r U U' V V' h1 hal h2 h) ?_
  intro p e s m args below meth c s₁ X0 hexec hbytes hml hret hlk hnm hown hh0 W hP
  obtain ⟨rfl, hV, hu, s1, rf⟩ := hP
  have v31 := hV.2.2.2
  have hi : i < V.slots.size := (Array.getElem?_eq_some_iff.mp hu).1
  have c1 : Steps p.tables e below (s₁.setTop (entryFrame m #[.ref t, .int (Int32.ofNat i)] 2)) (s₁.setTop (mkF m 0 #[.val (.ref t), .val (.int (Int32.ofNat i))] [])) := entry rfl
  have c2 : Steps p.tables e below (s₁.setTop (entryFrame m #[.ref t, .int (Int32.ofNat i)] 2)) (s₁.setTop (mkF m 3 #[.val (.ref t), .val (.int (Int32.ofNat i))] [.int (Int32.ofNat V.slots.size), .int (Int32.ofNat i)])) := c1.trans (by
    refine XS.iloadN X0.here hexec rfl (hb hbytes d0) rfl ?_
    refine XS.aloadN X0.here hexec rfl (hb hbytes d1) rfl rfl ?_
    refine X0.alen hexec (hV.mv X0.warmed.alike hh0) rfl rfl (hb hbytes d2) ?_
    exact Steps.refl _)
  obtain ⟨v3, T3, X3, E3, g3⟩ := X0.callS hexec (JO.Str_checkIndex.law l (Int32.ofNat i) (Int32.ofNat V.slots.size) fm) hown (wks W (staticW "java/lang/StringLatin1" 9 JO.Str_checkIndex.yN)) (wk W JO.Str_checkIndex.tab) (W := 0) (Nat.le_of_ble_eq_true rfl) (Nat.le_of_ble_eq_true rfl) (Nat.le_refl _) (Nat.le_refl _) (g := (mkF m 3 #[.val (.ref t), .val (.int (Int32.ofNat i))] [.int (Int32.ofNat V.slots.size), .int (Int32.ofNat i)])) rfl (by rw [hml]; rfl) c2 (argsL := [.int (Int32.ofNat i), .int (Int32.ofNat V.slots.size)]) (rest := []) rfl rfl (by show 2 * 0 + 0 ≤ _; decide) (hb hbytes d3) (⟨rfl, rf, s1.there X0.warmed.alike hh0, Int32.ofNat_not_neg (by omega), lt32 v31 hi⟩)
  obtain ⟨rfl, q3⟩ := E3
  have hh3 := q3.trans hh0
  have c4 : Steps p.tables e below (s₁.setTop (entryFrame m #[.ref t, .int (Int32.ofNat i)] 2)) (T3.setTop (mkF m 14 #[.val (.ref t), .val (.int (Int32.ofNat i))] [.int (chr8 u)])) := Steps.trans g3 (by
    refine XS.aloadN X3.here hexec rfl (hb hbytes d6) rfl rfl ?_
    refine XS.iloadN X3.here hexec rfl (hb hbytes d7) rfl ?_
    refine X3.aget hexec (hV.mv X3.warmed.alike hh3) rfl hu rfl rfl (hb hbytes d8) ?_
    refine sipushV X3.here hexec rfl 255 (hb hbytes d9) (by decide) ?_
    refine XS.iand X3.here hexec rfl (hb hbytes d12) rfl ?_
    refine i2c X3.here hexec rfl (hb hbytes d13) rfl ?_
    exact Steps.refl _)
  exact ⟨T3, some (.int (chr8 u)), _, _, _, X3, rfl, rfl, rfl, (fun h => by cases h), ⟨rfl, hh3⟩, fun fs hl => c4.trans (X3.ireturnOut hexec hret (narrow_c _) (Or.inr (Or.inr (Or.inr (Or.inl rfl)))) (hb hbytes d14) hl)⟩
end LChA
end StrChars
namespace StrChars.Road
open Jvm Sem ClassFile Op Lib Jvm.Stand Jvm.Free Jvm.Free.XT
open Jvm.Lib.Cold (StaticIs)
theorem consq {a : Array Value} {s : State} {c : Jvm.Cond} {L : List Jvm.Cond} (h0 : c.before a s = true) (h : ∀ w ∈ L, w.before a s = true) : ∀ w ∈ c :: L, w.before a s = true := fun w hw => (List.mem_cons.mp hw).elim (fun e => e ▸ h0) (h w)
/-- the words of String.length(), either coding -/
abbrev wordsLen : List Jvm.Cond := [.code Len.yN Len.yB 1 (some .int), .initialized ST, .fieldLink ST 9 ST "value" "[B", .fieldLink ST 38 ST "COMPACT_STRINGS" "Z", .fieldLink ST 15 ST "coder" "B", .code Cdr.yN Cdr.yB 1 (some .byte), .methodLink ST 335 Cdr.yN, .declares Cdr.yN, .selects ST Cdr.yN Cdr.yN, .instanceMethod Cdr.yN]
theorem tabLen_of {a : Array Value} {s : State} (h : ∀ w ∈ wordsLen, w.before a s = true) : Len.tab.before a s = true := by
  have hc : Cdr.tab.before a s = true := unparts (wk h (.code Cdr.yN Cdr.yB 1 (some .byte))) (wks h (.initialized Cdr.yN.cls :: Cdr.site))
  have q := consq hc h
  exact unparts (wk q (.code Len.yN Len.yB 1 (some .int))) (wks q (.initialized Len.yN.cls :: Len.site))
theorem movedLen {Z s : State} {a0 args : Array Value} (hZ : Z.Warmed39 s.vm) (hw : ∀ d ∈ wordsLen, d.before a0 Z = true) : ∀ d ∈ wordsLen, d.before args s = true := fun d hd => by
  have q := hw d hd
  have t : ∀ d ∈ wordsLen, d = .arrayClass .byte ∨ (d.onTables && d.keepsFace) = true := by decide +kernel
  rcases t d hd with rfl | t
  · exact RoadKit.mvA hZ q
  · exact RoadKit.mv hZ q t
/-- the bytes of the chars cs, low before high -/
def wideBytes : List Int32 → List Value
  | [] => []
  | c :: cs => .int (lo8 c) :: .int (hi8 c) :: wideBytes cs
theorem wide_lo (d : Value) : ∀ (cs : List Int32) (j : Nat), j < cs.length → (wideBytes cs).getD (2 * j) d = .int (lo8 (cs.getD j 0))
  | [], j, h => absurd h (Nat.not_lt_zero j)
  | c :: cs, 0, _ => rfl
  | c :: cs, j + 1, h => by
    have q := wide_lo d cs j (by simpa using h)
    rw [show 2 * (j + 1) = 2 * j + 1 + 1 from by omega]
    simpa [wideBytes] using q
theorem wide_hi (d : Value) : ∀ (cs : List Int32) (j : Nat), j < cs.length → (wideBytes cs).getD (2 * j + 1) d = .int (hi8 (cs.getD j 0))
  | [], j, h => absurd h (Nat.not_lt_zero j)
  | c :: cs, 0, _ => rfl
  | c :: cs, j + 1, h => by
    have q := wide_hi d cs j (by simpa using h)
    rw [show 2 * (j + 1) + 1 = 2 * j + 1 + 1 + 1 from by omega]
    simpa [wideBytes] using q
theorem low_at (d : Value) (cs : List Int32) (j : Nat) (h : j < cs.length) : (cs.map fun c => Value.int (lo8 c)).getD j d = .int (lo8 (cs.getD j 0)) := by
  simp [List.getD_eq_getElem?_getD, h]
/-- an array of N2 bytes vs codes the chars cs by the coder cd -/
def CodA (cs : List Int32) (cd N2 : Int32) (vs : List Value) : Prop := (cd = 0 ∧ N2 = Int32.ofNat cs.length ∧ vs = (cs.map fun c => Value.int (lo8 c)) ∧ ∀ c ∈ cs, ¬ 255 < c) ∨ (cd = 1 ∧ N2 = Int32.ofNat (2 * cs.length) ∧ vs = wideBytes cs ∧ ∃ c ∈ cs, 255 < c)
theorem CodA.cod {cs : List Int32} {cd N2 : Int32} {vs : List Value} {V : Cell} (h : CodA cs cd N2 vs) (hn : 2 * cs.length < 2 ^ 31) (hs : V.slots.size = N2.toNatClampNeg) (hv : RoadKit.Has V vs (.int 0)) : Cod cd cs.length (fun j => cs.getD j 0) V := by
  rcases h with ⟨rfl, rfl, rfl, h⟩ | ⟨rfl, rfl, rfl, c, hc, hw⟩
  · rw [n32 (by omega)] at hs
    exact Or.inl ⟨rfl, hs, fun j hj => ⟨by rw [hv j (by omega), low_at _ _ _ hj], by
      have e : cs.getD j 0 = cs[j] := by simp [List.getD_eq_getElem?_getD, hj]
      show ¬ 255 < cs.getD j 0
      rw [e]; exact h _ (List.getElem_mem _)⟩⟩
  · rw [n32 (by omega)] at hs
    obtain ⟨j, hj, rfl⟩ := List.getElem_of_mem hc
    exact Or.inr ⟨rfl, hs, fun j hj => ⟨by rw [hv _ (by omega), wide_lo _ _ _ hj], by rw [hv _ (by omega), wide_hi _ _ _ hj]⟩, j, hj, by
      have e : cs.getD j 0 = cs[j] := by simp [List.getD_eq_getElem?_getD, hj]
      show 255 < cs.getD j 0
      rw [e]; exact hw⟩
/-- an object of exactly java/lang/String, its two fields found: as the laws ask it -/
theorem strObj {Z U : State} {a0 : Array Value} {kI : Nat} (wi : (Jvm.Cond.instantiable ST kI).before a0 Z = true) (al : Z.vm.Alike U.vm) {x : Addr} {v0 c0 : Value} (E : RoadKit.Exa Z U.heap x ST) (V : RoadKit.Fld Z U.heap x ST "value" "[B" v0) (C : RoadKit.Fld Z U.heap x ST "coder" "B" c0) :
    ∃ (D : Cell) (fV fC : Field), Blank ST x D U ∧ Found ST "value" "[B" fV U ∧ Found ST "coder" "B" fC U ∧ D.slots[fV.slot]? = some v0 ∧ D.slots[fC.slot]? = some c0 ∧ RoadKit.slotOf Z ST "value" "[B" = fV.slot ∧ RoadKit.slotOf Z ST "coder" "B" = fC.slot := by
  obtain ⟨D, cfV, kV, iV, fV, hD, gV, stV, knV, obV, asV, slV⟩ := V
  obtain ⟨D', cfC, kC, iC, fC, hD', gC, stC, -, -, asC, slC⟩ := C
  cases hD.symm.trans hD'
  obtain ⟨D2, kD, e1, e2, e3, e4, e5⟩ := E
  cases hD.symm.trans e1
  obtain ⟨c2, k2, i1, i2, i3, -⟩ := Cond.instantiable_spec wi
  cases e2.symm.trans i1
  cases e3.symm.trans i2
  obtain ⟨kU, u1, u2⟩ := al.2.2 _ _ e3
  exact ⟨D, fV, fC, ⟨hD, ⟨knV, fun q hq => by rw [hq] at obV; cases obV⟩, by rw [al.findClass]; exact e2, kU, u1, by rw [u2]; exact i3, by rw [u2]; exact e5 i3⟩, ⟨SBG.found_only al ⟨cfV, kV, iV, gV⟩, stV⟩, ⟨SBG.found_only al ⟨cfC, kC, iC, gC⟩, stC⟩, slV, slC, by simp [RoadKit.slotOf, gV], by simp [RoadKit.slotOf, gC]⟩
theorem sta_is {Z U : State} (al : Z.vm.Alike U.vm) {C n d : String} {v : Value} (S : RoadKit.Sta Z U.heap C n d v) : StaticIs U C n d v := by
  obtain ⟨cfS, iS, kS, fS, st, cS, t1, t2, t3, t4, t5, t6, t7⟩ := S
  exact StaticIs.there (s := { Z with heap := U.heap }) ⟨cfS, iS, kS, fS, st, cS, t1, t2, t3, t4, t5, (fun q => by rw [q] at t6; cases t6), t7⟩ al rfl
/-- **length() OF SUCH A STRING** -/
theorem lenW {p : Program} {l : Launch} {e : Env} {R : Room} {s : State} {args : Array Value} {below : List Frame} {len W : Nat} {Z : State} {a0 : Array Value} {h : Heap} (hZ : Z.Warmed39 s.vm) (hw : ∀ d ∈ wordsLen, d.before a0 Z = true) {kI : Nat} (wi : (Jvm.Cond.instantiable ST kI).before a0 Z = true)
    {x t : Addr} {kb : ClassId} {cs : List Int32} {cd N2 z : Int32} {vs : List Value} (E : RoadKit.Exa Z h x ST) (V : RoadKit.Fld Z h x ST "value" "[B" (.ref t)) (C : RoadKit.Fld Z h x ST "coder" "B" (.int cd)) (K : RoadKit.Arv Z h t kb .byte N2 vs (.int 0)) (hc : CodA cs cd N2 vs) (hb : ∀ c ∈ cs, ¬ c < 0 ∧ ¬ (65535 : Int32) < c)
    (S : RoadKit.Sta Z h ST "COMPACT_STRINGS" "Z" (.int z)) (hz : ¬ z = 0) (l2 : cs.length ≤ 4000) (hfr : 2 ≤ R.frames) (hlo : W + 25 ≤ R.locals) :
    Back l R p e below s args (⟨"java/lang/String", "length", "()I"⟩ : MethodName) len W (fun P a => a = #[.ref x] ∧ P.U.heap = h ∧ P.cells + 0 ≤ R.cells ∧ P.slots + 0 ≤ R.slots)
      (fun P _ v B => ∃ L, (v = some (.int (Int32.ofNat cs.length)) ∧ L = [] ∧ B.U.heap = h) ∧ B.locs = P.locs ++ L ∧ B.cells = P.cells + 0 ∧ B.slots = P.slots + 0) := by
  obtain ⟨A, K1, K2, K3, K4, K5, K6⟩ := K
  have hcod := hc.cod (by omega) K3 K5
  intro m meth c P g ig mk a X hg hsize hdg hW hn hp'
  obtain ⟨rfl, rfl, r1, r2⟩ := hp'
  have al : Z.vm.Alike P.U.vm := hZ.alike.trans X.warmed.alike
  obtain ⟨D, fV, fC, hB, F1, F2, g1, g2, -, -⟩ := strObj wi al E V C
  have hx : Txt x t A cd cs.length (fun j => cs.getD j 0) P.U := ⟨⟨_, hB.2.2.1, D, hB.1, rfl, by cases q : D.vm <;> first | rfl | exact absurd q (hB.2.1.2 _)⟩, Has.of hB F1 g1, Has.of hB F2 g2, ⟨K1.1, State.isArrayOf_alike al K1.2.1, K1.2.2, by rcases hcod with ⟨-, q, -⟩ | ⟨-, q, -⟩ <;> omega⟩, hcod, fun j hj => by
    have e : cs.getD j 0 = cs[j] := by simp [List.getD_eq_getElem?_getD, hj]
    show ¬ cs.getD j 0 < 0 ∧ ¬ 65535 < cs.getD j 0
    rw [e]; exact hb _ (List.getElem_mem _)⟩
  obtain ⟨v, B, X', ⟨⟨hv, hh⟩, hl, hk, hs⟩, st⟩ := Len.pays x t A cd cs.length (fun j => cs.getD j 0) z (tabLen_of (movedLen hZ hw)) hfr hlo m meth c P g ig mk _ X hg hsize hdg hW hn ⟨r1, r2, rfl, hx, sta_is al S, hz⟩
  exact ⟨v, B, X', ⟨[], ⟨hv, rfl, hh⟩, hl, hk, hs⟩, st⟩
end StrChars.Road
namespace StrChars.Road
open Jvm Sem ClassFile Op Lib Jvm.Stand Jvm.Free Jvm.Free.XT
open Jvm.Lib.Cold (StaticIs)
/-- the road's facts of a String, as the laws ask it -/
theorem txt_of {Z U : State} {a0 : Array Value} {kI : Nat} (wi : (Jvm.Cond.instantiable ST kI).before a0 Z = true) (al : Z.vm.Alike U.vm) {x t : Addr} {kb : ClassId} {cs : List Int32} {cd N2 : Int32} {vs : List Value} (E : RoadKit.Exa Z U.heap x ST) (V : RoadKit.Fld Z U.heap x ST "value" "[B" (.ref t)) (C : RoadKit.Fld Z U.heap x ST "coder" "B" (.int cd)) (K : RoadKit.Arv Z U.heap t kb .byte N2 vs (.int 0)) (hc : CodA cs cd N2 vs) (hb : ∀ c ∈ cs, ¬ c < 0 ∧ ¬ (65535 : Int32) < c) (l2 : cs.length ≤ 4000) :
    ∃ A, Txt x t A cd cs.length (fun j => cs.getD j 0) U := by
  obtain ⟨A, K1, K2, K3, K4, K5, K6⟩ := K
  have hcod := hc.cod (by omega) K3 K5
  obtain ⟨D, fV, fC, hB, F1, F2, g1, g2, -, -⟩ := strObj wi al E V C
  exact ⟨A, ⟨_, hB.2.2.1, D, hB.1, rfl, by cases q : D.vm <;> first | rfl | exact absurd q (hB.2.1.2 _)⟩, Has.of hB F1 g1, Has.of hB F2 g2, ⟨K1.1, State.isArrayOf_alike al K1.2.1, K1.2.2, by rcases hcod with ⟨-, q, -⟩ | ⟨-, q, -⟩ <;> omega⟩, hcod, fun j hj => by
    have e : cs.getD j 0 = cs[j] := by simp [List.getD_eq_getElem?_getD, hj]
    show ¬ cs.getD j 0 < 0 ∧ ¬ 65535 < cs.getD j 0
    rw [e]; exact hb _ (List.getElem_mem _)⟩
end StrChars.Road
namespace StrChars
open Jvm Sem ClassFile Op Lib Jvm.Stand Jvm.Free.XT Jvm.Free.ALB Jvm.Free.JM Jvm.Free
open Jvm.Lib.Cold (StaticIs)
namespace ChN
def yN : MethodName := ⟨"java/lang/String", "charAt", "(I)C"⟩
abbrev yB : ByteArray := jdk_42_method_56_code
theorem d0 : decode yB 0 = .ok (.aload_n 0, 1) := by decide +kernel
theorem d1 : decode yB 1 = .ok (.invokevirtual 492, 3) := by decide +kernel
theorem d4 : decode yB 4 = .ok (.ifCond (.eq) 12, 3) := by decide +kernel
theorem d7 : decode yB 7 = .ok (.aload_n 0, 1) := by decide +kernel
theorem d8 : decode yB 8 = .ok (.getfield 9, 3) := by decide +kernel
theorem d11 : decode yB 11 = .ok (.iload_n 1, 1) := by decide +kernel
theorem d12 : decode yB 12 = .ok (.invokestatic 495, 3) := by decide +kernel
theorem d15 : decode yB 15 = .ok (.ireturn, 1) := by decide +kernel
def site : List Cond := [.fieldLink "java/lang/String" 9 "java/lang/String" "value" "[B", IsL.tab, LChA.tab] ++ virtW "java/lang/String" 492 "java/lang/String" IsL.yN IsL.yN ++ staticW "java/lang/String" 495 LChA.yN
def tab : Cond := tabOf yN yB 2 (some .char) site
def P (x t : Addr) (V : Cell) (n : Nat) (f : Nat → Int32) (z : Int32) (fm : Value) (i : Nat) (args : Array Value) (s : State) : Prop := args = #[.ref x, .int (Int32.ofNat i)] ∧ Txt x t V 0 n f s ∧ i < n ∧ StaticIs s "java/lang/String" "COMPACT_STRINGS" "Z" (.int z) ∧ ¬ z = 0 ∧ StaticIs s "jdk/internal/util/Preconditions" "SIOOBE_FORMATTER" "Ljava/util/function/BiFunction;" fm ∧ fm.isRef = true
def E (f : Nat → Int32) (i : Nat) (r : Option Value) (s u : State) : Prop := XT.PureE (some (.int (f i))) r s u
/-- charAt(i) of a Latin-1 String of n chars, i < n: f i -/
theorem law (l : Launch) (x t : Addr) (V : Cell) (n : Nat) (f : Nat → Int32) (z : Int32) (fm : Value) (i : Nat) : Law l yN 2 1 3 40 yB 2 (some .char) site (P x t V n f z fm i) (E f i) [] 0 0 := by
  refine Law.of_walk (plainFor_of_name (by decide +kernel)) (by decide +kernel) (by decide +kernel) (by decide) (fun _ _ h => by rw [h.1]; rfl) (fun _ U U' hal hh h => ⟨h.1, h.2.1.mv hal hh, h.2.2.1, h.2.2.2.1.there hal hh, h.2.2.2.2.1, h.2.2.2.2.2.1.there hal hh, h.2.2.2.2.2.2⟩) (fun r U U' V V' h1 hal h2 h => XT.PureE.mv r U U' V V' h1 hal h2 h) ?_
  intro p e s m args below meth c s₁ X0 hexec hbytes hml hret hlk hnm hown hh0 W hP
  obtain ⟨rfl, hx, hi, s1, hz, s3, rf⟩ := hP
  have v31 := hx.2.2.2.1.2.2.2
  have hr := hx.2.2.2.2.2 i hi
  have hx0 := hx.mv X0.warmed.alike hh0
  have c1 : Steps p.tables e below (s₁.setTop (entryFrame m #[.ref x, .int (Int32.ofNat i)] 2)) (s₁.setTop (mkF m 1 #[.val (.ref x), .val (.int (Int32.ofNat i))] [.ref x])) := Steps.trans (entry rfl) (by
    show Steps p.tables e below (s₁.setTop (mkF m 0 #[.val (.ref x), .val (.int (Int32.ofNat i))] [])) _
    refine XS.aloadN X0.here hexec rfl (hb hbytes d0) rfl rfl ?_
    exact Steps.refl _)
  obtain ⟨v2, T2, X2, E2, g2⟩ := X0.callV hexec (IsL.law l x 0 z) hown (wks W (virtW "java/lang/String" 492 "java/lang/String" IsL.yN IsL.yN)) rfl (by decide) (wk W IsL.tab) (W := 0) (Nat.le_of_ble_eq_true rfl) (Nat.le_of_ble_eq_true rfl) (Nat.le_refl _) (Nat.le_refl _) (hx0.1.fc X0.warmed.alike) hx0.1.is (g := (mkF m 1 #[.val (.ref x), .val (.int (Int32.ofNat i))] [.ref x])) rfl (by rw [hml]; rfl) c1 (argsL := []) (rest := []) rfl rfl (by show 2 * 0 + 0 ≤ _; decide) (hb hbytes d1) (⟨rfl, hx0.2.2.1, hx.2.2.2.2.1.cd, s1.there X0.warmed.alike hh0, hz⟩)
  obtain ⟨rfl, q2⟩ := E2
  have hh2 := q2.trans hh0
  have hx2 := hx.mv X2.warmed.alike hh2
  obtain ⟨-, k1, k2⟩ | ⟨k0, -⟩ := hx.2.2.2.2.1
  · have c3 : Steps p.tables e below (s₁.setTop (entryFrame m #[.ref x, .int (Int32.ofNat i)] 2)) (T2.setTop (mkF m 8 #[.val (.ref x), .val (.int (Int32.ofNat i))] [.ref x])) := Steps.trans g2 (by
      refine XS.ifNo X2.here hexec rfl (hb hbytes d4) rfl (i0_eq_f (by decide)) ?_
      refine XS.aloadN X2.here hexec rfl (hb hbytes d7) rfl rfl ?_
      exact Steps.refl _)
    obtain ⟨T4, X4, q4, st4⟩ := X2.hget hexec hown (wk W (.fieldLink "java/lang/String" 9 "java/lang/String" "value" "[B")) hx2.2.1 (g := (mkF m 8 #[.val (.ref x), .val (.int (Int32.ofNat i))] [.ref x])) rfl (rest := []) rfl (hb hbytes d8)
    have hh4 := q4.trans hh2
    have c5 : Steps p.tables e below (s₁.setTop (entryFrame m #[.ref x, .int (Int32.ofNat i)] 2)) (T4.setTop (mkF m 12 #[.val (.ref x), .val (.int (Int32.ofNat i))] [.int (Int32.ofNat i), .ref t])) := (c3.trans (st4 _ (Steps.refl _))).trans (by
      refine XS.iloadN X4.here hexec rfl (hb hbytes d11) rfl ?_
      exact Steps.refl _)
    obtain ⟨v6, T6, X6, E6, g6⟩ := X4.callS hexec (LChA.law l t V i (lo8 (f i)) fm) hown (wks W (staticW "java/lang/String" 495 LChA.yN)) (wk W LChA.tab) (W := 0) (Nat.le_of_ble_eq_true rfl) (Nat.le_of_ble_eq_true rfl) (Nat.le_refl _) (Nat.le_refl _) (g := (mkF m 12 #[.val (.ref x), .val (.int (Int32.ofNat i))] [.int (Int32.ofNat i), .ref t])) rfl (by rw [hml]; rfl) c5 (argsL := [.ref t, .int (Int32.ofNat i)]) (rest := []) rfl rfl (by show 2 * 0 + 0 ≤ _; decide) (hb hbytes d12) (⟨rfl, hx.2.2.2.1.mv X4.warmed.alike hh4, (k2 i hi).1, s3.there X4.warmed.alike hh4, rf⟩)
    obtain ⟨rfl, q6⟩ := E6
    rw [chr8_lo8 hr.1 (k2 i hi).2] at g6
    exact ⟨T6, some (.int (f i)), _, _, _, X6, rfl, rfl, rfl, (fun h => by cases h), ⟨rfl, q6.trans hh4⟩, fun fs hl => Steps.trans g6 (X6.ireturnOut hexec hret (narrow_ch hr.1 hr.2) (Or.inr (Or.inr (Or.inr (Or.inl rfl)))) (hb hbytes d15) hl)⟩
  · exact absurd k0 (by decide)
theorem pays {l : Launch} {R : Room} {p : Program} {e : Env} {below : List Frame} {s : State} {sargs : Array Value} {len W : Nat} (x t : Addr) (V : Cell) (n : Nat) (f : Nat → Int32) (z : Int32) (fm : Value) (i : Nat) (htab : tab.before sargs s = true) (hfr : 4 ≤ R.frames) (hlo : W + 53 ≤ R.locals) :
    Back l R p e below s sargs yN len W (fun A₁ a₁ => A₁.cells + 0 ≤ R.cells ∧ A₁.slots + 0 ≤ R.slots ∧ P x t V n f z fm i a₁ A₁.U) (fun A₁ _ v₁ B₁ => E f i v₁ A₁.U B₁.U ∧ B₁.locs = A₁.locs ++ [] ∧ B₁.cells = A₁.cells + 0 ∧ B₁.slots = A₁.slots + 0) :=
  (law l x t V n f z fm i).pays htab hfr (by omega)
end ChN
end StrChars
namespace StrChars.Road
open Jvm Sem ClassFile Op Lib Jvm.Stand Jvm.Free Jvm.Free.XT
open Jvm.Lib.Cold (StaticIs)
/-- the words of String.charAt(int), the Latin-1 road alone -/
abbrev wordsChN : List Jvm.Cond := [.code ChN.yN ChN.yB 2 (some .char), .initialized ST, .fieldLink ST 9 ST "value" "[B", .fieldLink ST 38 ST "COMPACT_STRINGS" "Z", .fieldLink ST 15 ST "coder" "B", .code IsL.yN IsL.yB 1 (some .boolean), .methodLink ST 492 IsL.yN, .declares IsL.yN, .selects ST IsL.yN IsL.yN, .instanceMethod IsL.yN,
  .methodLink ST 495 LChA.yN, .static LChA.yN, .code LChA.yN LChA.yB 2 (some .char), .initialized "java/lang/StringLatin1", .methodLink "java/lang/StringLatin1" 9 JO.Str_checkIndex.yN, .static JO.Str_checkIndex.yN, .code JO.Str_checkIndex.yN JO.Str_checkIndex.yB 2 none,
  .fieldLink ST 1053 "jdk/internal/util/Preconditions" "SIOOBE_FORMATTER" "Ljava/util/function/BiFunction;", .methodLink ST 1059 JC.PreCheck.yN, .static JC.PreCheck.yN, .code JC.PreCheck.yN JC.PreCheck.yB 3 (some .int), .initialized "jdk/internal/util/Preconditions"]
theorem tabChN_of {a : Array Value} {s : State} (h : ∀ w ∈ wordsChN, w.before a s = true) : ChN.tab.before a s = true := by
  have hp : JC.PreCheck.tab.before a s = true := unparts (wk h (.code JC.PreCheck.yN JC.PreCheck.yB 3 (some .int))) (wks h (.initialized JC.PreCheck.yN.cls :: JC.PreCheck.site))
  have qk := consq hp h
  have hk : JO.Str_checkIndex.tab.before a s = true := unparts (wk qk (.code JO.Str_checkIndex.yN JO.Str_checkIndex.yB 2 none)) (wks qk (.initialized JO.Str_checkIndex.yN.cls :: JO.Str_checkIndex.site))
  have ql := consq hk h
  have hl : LChA.tab.before a s = true := unparts (wk ql (.code LChA.yN LChA.yB 2 (some .char))) (wks ql (.initialized LChA.yN.cls :: LChA.site))
  have hi : IsL.tab.before a s = true := unparts (wk h (.code IsL.yN IsL.yB 1 (some .boolean))) (wks h (.initialized IsL.yN.cls :: IsL.site))
  have q := consq hi (consq hl h)
  exact unparts (wk q (.code ChN.yN ChN.yB 2 (some .char))) (wks q (.initialized ChN.yN.cls :: ChN.site))
theorem movedChN {Z s : State} {a0 args : Array Value} (hZ : Z.Warmed39 s.vm) (hw : ∀ d ∈ wordsChN, d.before a0 Z = true) : ∀ d ∈ wordsChN, d.before args s = true := fun d hd => by
  have t : ∀ d ∈ wordsChN, (d.onTables && d.keepsFace) = true := by decide +kernel
  exact RoadKit.mv hZ (hw d hd) (t d hd)
/-- **charAt(i) OF A LATIN-1 STRING**, i < n: the char -/
theorem chN {p : Program} {l : Launch} {e : Env} {R : Room} {s : State} {args : Array Value} {below : List Frame} {len W : Nat} {Z : State} {a0 : Array Value} {h : Heap} (hZ : Z.Warmed39 s.vm) (hw : ∀ d ∈ wordsChN, d.before a0 Z = true) {kI : Nat} (wi : (Jvm.Cond.instantiable ST kI).before a0 Z = true)
    {x t : Addr} {kb : ClassId} {cs : List Int32} {N2 z : Int32} {vs : List Value} {fm : Value} {i : Nat} {j : Int32} (E : RoadKit.Exa Z h x ST) (V : RoadKit.Fld Z h x ST "value" "[B" (.ref t)) (C : RoadKit.Fld Z h x ST "coder" "B" (.int 0)) (K : RoadKit.Arv Z h t kb .byte N2 vs (.int 0)) (hc : CodA cs 0 N2 vs) (hb : ∀ c ∈ cs, ¬ c < 0 ∧ ¬ (65535 : Int32) < c)
    (S : RoadKit.Sta Z h ST "COMPACT_STRINGS" "Z" (.int z)) (hz : ¬ z = 0) (F : RoadKit.Sta Z h "jdk/internal/util/Preconditions" "SIOOBE_FORMATTER" "Ljava/util/function/BiFunction;" fm) (rf : fm.isRef = true) (l2 : cs.length ≤ 4000) (hi : i < cs.length) (hj : j = Int32.ofNat i) (hfr : 4 ≤ R.frames) (hlo : W + 53 ≤ R.locals) :
    Back l R p e below s args (⟨"java/lang/String", "charAt", "(I)C"⟩ : MethodName) len W (fun P a => a = #[.ref x, .int j] ∧ P.U.heap = h ∧ P.cells + 0 ≤ R.cells ∧ P.slots + 0 ≤ R.slots)
      (fun P _ v B => ∃ L, (v = some (.int (cs.getD i 0)) ∧ L = [] ∧ B.U.heap = h) ∧ B.locs = P.locs ++ L ∧ B.cells = P.cells + 0 ∧ B.slots = P.slots + 0) := by
  subst hj
  intro m meth c P g ig mk a X hg hsize hdg hW hn hp'
  obtain ⟨rfl, rfl, r1, r2⟩ := hp'
  have al : Z.vm.Alike P.U.vm := hZ.alike.trans X.warmed.alike
  obtain ⟨A, hx⟩ := txt_of wi al E V C K hc hb l2
  obtain ⟨v, B, X', ⟨⟨hv, hh⟩, hl, hk, hs⟩, st⟩ := ChN.pays x t A cs.length (fun j => cs.getD j 0) z fm i (tabChN_of (movedChN hZ hw)) hfr hlo m meth c P g ig mk _ X hg hsize hdg hW hn ⟨r1, r2, rfl, hx, hi, sta_is al S, hz, sta_is al F, rf⟩
  exact ⟨v, B, X', ⟨[], ⟨hv, rfl, hh⟩, hl, hk, hs⟩, st⟩
end StrChars.Road
end Jvm.Pilot.@@N@@
namespace Jvm.Pilot.@@N@@
open Jvm Jvm.ClassFile Sem Op Lib Jvm.Free Jvm.Stand Jvm.LawKit Jvm.RoadKit Bundle Jvm.Own Jvm.Pilot.@@N@@.Jvm.D
abbrev own_EL : List (String × Nat) := consts_1
theorem lt0_a : ∀ c ∈ ("" : String).toList, c.toNat < 256 := by decide +kernel
theorem lt0_b : ("" : String).toList.map (fun c => Value.int (Jvm.Lit.byteI c.toNat.toUInt16)) = (([] : List Int32) : List Int32).map fun c => Value.int c.toInt8.toInt32 := by decide +kernel
theorem lt0_c : ∀ c ∈ (([] : List Int32) : List Int32), ¬ c < 0 ∧ ¬ (255 : Int32) < c := by decide +kernel
theorem lt0_d : 4 * ("" : String).toList.length = 0 := by decide +kernel
theorem lt1_a : ∀ c ∈ ("the entry \"" : String).toList, c.toNat < 256 := by decide +kernel
theorem lt1_b : ("the entry \"" : String).toList.map (fun c => Value.int (Jvm.Lit.byteI c.toNat.toUInt16)) = ([(116 : Int32), (104 : Int32), (101 : Int32), (32 : Int32), (101 : Int32), (110 : Int32), (116 : Int32), (114 : Int32), (121 : Int32), (32 : Int32), (34 : Int32)] : List Int32).map fun c => Value.int c.toInt8.toInt32 := by decide +kernel
theorem lt1_c : ∀ c ∈ ([(116 : Int32), (104 : Int32), (101 : Int32), (32 : Int32), (101 : Int32), (110 : Int32), (116 : Int32), (114 : Int32), (121 : Int32), (32 : Int32), (34 : Int32)] : List Int32), ¬ c < 0 ∧ ¬ (255 : Int32) < c := by decide +kernel
theorem lt1_d : 4 * ("the entry \"" : String).toList.length = 44 := by decide +kernel
theorem lt2_a : ∀ c ∈ ("\"" : String).toList, c.toNat < 256 := by decide +kernel
theorem lt2_b : ("\"" : String).toList.map (fun c => Value.int (Jvm.Lit.byteI c.toNat.toUInt16)) = ([(34 : Int32)] : List Int32).map fun c => Value.int c.toInt8.toInt32 := by decide +kernel
theorem lt2_c : ∀ c ∈ ([(34 : Int32)] : List Int32), ¬ c < 0 ∧ ¬ (255 : Int32) < c := by decide +kernel
theorem lt2_d : 4 * ("\"" : String).toList.length = 4 := by decide +kernel
theorem wd_0 : (Jvm.Cond.classLink "com/example/likeness/likeness/property/ElementsEntryWriterPinLaw" (7 : Nat) "java/lang/String") ∈ tables_1 := List.mem_of_getElem? (i := 0) rfl
theorem wd_1 : (Jvm.Cond.instantiable "java/lang/String" (4 : Nat)) ∈ tables_1 := List.mem_of_getElem? (i := 1) rfl
theorem wd_2 : (Jvm.Cond.initialized "java/lang/String") ∈ tables_1 := List.mem_of_getElem? (i := 2) rfl
theorem wd_3 : (Jvm.Cond.arrayClass Jvm.ClassFile.FieldType.char) ∈ tables_1 := List.mem_of_getElem? (i := 3) rfl
theorem wd_4 : (Jvm.Cond.methodLink "com/example/likeness/likeness/property/ElementsEntryWriterPinLaw" (9 : Nat) ({ cls := "java/lang/String", name := "<init>", desc := "([C)V" } : Jvm.MethodName)) ∈ tables_1 := List.mem_of_getElem? (i := 4) rfl
theorem wd_5 : (Jvm.Cond.instanceMethod ({ cls := "java/lang/String", name := "<init>", desc := "([C)V" } : Jvm.MethodName)) ∈ tables_1 := List.mem_of_getElem? (i := 5) rfl
theorem wd_6 : (Jvm.Cond.code ({ cls := "java/lang/String", name := "<init>", desc := "([C)V" } : Jvm.MethodName) jdk_42_method_3_code (2 : Nat) (Option.none : Option Jvm.ClassFile.FieldType)) ∈ tables_1 := List.mem_of_getElem? (i := 6) rfl
theorem wd_7 : (Jvm.Cond.methodLink "java/lang/String" (27 : Nat) ({ cls := "java/lang/String", name := "<init>", desc := "([CIILjava/lang/Void;)V" } : Jvm.MethodName)) ∈ tables_1 := List.mem_of_getElem? (i := 7) rfl
theorem wd_8 : (Jvm.Cond.instanceMethod ({ cls := "java/lang/String", name := "<init>", desc := "([CIILjava/lang/Void;)V" } : Jvm.MethodName)) ∈ tables_1 := List.mem_of_getElem? (i := 8) rfl
theorem wd_10 : (Jvm.Cond.code ({ cls := "java/lang/String", name := "<init>", desc := "([CIILjava/lang/Void;)V" } : Jvm.MethodName) jdk_42_method_149_code (6 : Nat) (Option.none : Option Jvm.ClassFile.FieldType)) ∈ tables_1 := List.mem_of_getElem? (i := 10) rfl
theorem wd_11 : (Jvm.Cond.methodLink "java/lang/String" (1 : Nat) ({ cls := "java/lang/Object", name := "<init>", desc := "()V" } : Jvm.MethodName)) ∈ tables_1 := List.mem_of_getElem? (i := 11) rfl
theorem wd_12 : (Jvm.Cond.instanceMethod ({ cls := "java/lang/Object", name := "<init>", desc := "()V" } : Jvm.MethodName)) ∈ tables_1 := List.mem_of_getElem? (i := 12) rfl
theorem wd_13 : (Jvm.Cond.code ({ cls := "java/lang/Object", name := "<init>", desc := "()V" } : Jvm.MethodName) object_method_1_code (1 : Nat) (Option.none : Option Jvm.ClassFile.FieldType)) ∈ tables_1 := List.mem_of_getElem? (i := 13) rfl
theorem wd_14 : (Jvm.Cond.fieldLink "java/lang/String" (38 : Nat) "java/lang/String" "COMPACT_STRINGS" "Z") ∈ tables_1 := List.mem_of_getElem? (i := 14) rfl
theorem wd_19 : (Jvm.Cond.arrayClass Jvm.ClassFile.FieldType.byte) ∈ tables_1 := List.mem_of_getElem? (i := 19) rfl
theorem wd_26 : (Jvm.Cond.fieldLink "java/lang/String" (15 : Nat) "java/lang/String" "coder" "B") ∈ tables_1 := List.mem_of_getElem? (i := 26) rfl
theorem wd_27 : (Jvm.Cond.laysFinal "java/lang/String" "java/lang/String" "coder" "B") ∈ tables_1 := List.mem_of_getElem? (i := 27) rfl
theorem wd_28 : (Jvm.Cond.fieldLink "java/lang/String" (9 : Nat) "java/lang/String" "value" "[B") ∈ tables_1 := List.mem_of_getElem? (i := 28) rfl
theorem wd_29 : (Jvm.Cond.laysFinal "java/lang/String" "java/lang/String" "value" "[B") ∈ tables_1 := List.mem_of_getElem? (i := 29) rfl
theorem wd_30 : (Jvm.Cond.methodLink "com/example/likeness/likeness/property/ElementsEntryWriterPinLaw" (16 : Nat) ({ cls := "com/example/likeness/likeness/property/Elements", name := "entryWriter", desc := "(Ljava/lang/String;)Lcom/example/likeness/likeness/property/PropertyWriter;" } : Jvm.MethodName)) ∈ tables_1 := List.mem_of_getElem? (i := 30) rfl
theorem wd_31 : (Jvm.Cond.static ({ cls := "com/example/likeness/likeness/property/Elements", name := "entryWriter", desc := "(Ljava/lang/String;)Lcom/example/likeness/likeness/property/PropertyWriter;" } : Jvm.MethodName)) ∈ tables_1 := List.mem_of_getElem? (i := 31) rfl
theorem wd_32 : (Jvm.Cond.initialized "com/example/likeness/likeness/property/Elements") ∈ tables_1 := List.mem_of_getElem? (i := 32) rfl
theorem wd_33 : (Jvm.Cond.code ({ cls := "com/example/likeness/likeness/property/Elements", name := "entryWriter", desc := "(Ljava/lang/String;)Lcom/example/likeness/likeness/property/PropertyWriter;" } : Jvm.MethodName) prog_46_method_7_code (1 : Nat) (Option.some (Jvm.ClassFile.FieldType.object "com/example/likeness/likeness/property/PropertyWriter"))) ∈ tables_1 := List.mem_of_getElem? (i := 33) rfl
theorem wd_34 : (Jvm.Cond.classLink "com/example/likeness/likeness/property/Elements" (105 : Nat) "com/example/likeness/likeness/property/PropertyWriter") ∈ tables_1 := List.mem_of_getElem? (i := 34) rfl
theorem wd_35 : (Jvm.Cond.instantiable "com/example/likeness/likeness/property/PropertyWriter" (7 : Nat)) ∈ tables_1 := List.mem_of_getElem? (i := 35) rfl
theorem wd_36 : (Jvm.Cond.initialized "com/example/likeness/likeness/property/PropertyWriter") ∈ tables_1 := List.mem_of_getElem? (i := 36) rfl
theorem wd_37 : (Jvm.Cond.classLink "com/example/likeness/likeness/property/Elements" (2 : Nat) "java/lang/Object") ∈ tables_1 := List.mem_of_getElem? (i := 37) rfl
theorem wd_39 : (Jvm.Cond.classLink "com/example/likeness/likeness/property/Elements" (54 : Nat) "java/lang/StringBuilder") ∈ tables_1 := List.mem_of_getElem? (i := 39) rfl
theorem wd_40 : (Jvm.Cond.instantiable "java/lang/StringBuilder" (4 : Nat)) ∈ tables_1 := List.mem_of_getElem? (i := 40) rfl
theorem wd_41 : (Jvm.Cond.initialized "java/lang/StringBuilder") ∈ tables_1 := List.mem_of_getElem? (i := 41) rfl
theorem wd_42 : (Jvm.Cond.methodLink "com/example/likeness/likeness/property/Elements" (56 : Nat) ({ cls := "java/lang/StringBuilder", name := "<init>", desc := "()V" } : Jvm.MethodName)) ∈ tables_1 := List.mem_of_getElem? (i := 42) rfl
theorem wd_43 : (Jvm.Cond.instanceMethod ({ cls := "java/lang/StringBuilder", name := "<init>", desc := "()V" } : Jvm.MethodName)) ∈ tables_1 := List.mem_of_getElem? (i := 43) rfl
theorem wd_44 : (Jvm.Cond.code ({ cls := "java/lang/StringBuilder", name := "<init>", desc := "()V" } : Jvm.MethodName) jdk_67_method_1_code (1 : Nat) (Option.none : Option Jvm.ClassFile.FieldType)) ∈ tables_1 := List.mem_of_getElem? (i := 44) rfl
theorem wd_45 : (Jvm.Cond.methodLink "java/lang/StringBuilder" (1 : Nat) ({ cls := "java/lang/AbstractStringBuilder", name := "<init>", desc := "(I)V" } : Jvm.MethodName)) ∈ tables_1 := List.mem_of_getElem? (i := 45) rfl
theorem wd_46 : (Jvm.Cond.instanceMethod ({ cls := "java/lang/AbstractStringBuilder", name := "<init>", desc := "(I)V" } : Jvm.MethodName)) ∈ tables_1 := List.mem_of_getElem? (i := 46) rfl
theorem wd_49 : (Jvm.Cond.initialized "java/lang/AbstractStringBuilder") ∈ tables_1 := List.mem_of_getElem? (i := 49) rfl
theorem wd_50 : (Jvm.Cond.code ({ cls := "java/lang/AbstractStringBuilder", name := "<init>", desc := "(I)V" } : Jvm.MethodName) jdk_68_method_2_code (2 : Nat) (Option.none : Option Jvm.ClassFile.FieldType)) ∈ tables_1 := List.mem_of_getElem? (i := 50) rfl
theorem wd_51 : (Jvm.Cond.methodLink "java/lang/AbstractStringBuilder" (3 : Nat) ({ cls := "java/lang/Object", name := "<init>", desc := "()V" } : Jvm.MethodName)) ∈ tables_1 := List.mem_of_getElem? (i := 51) rfl
theorem wd_52 : (Jvm.Cond.fieldLink "java/lang/AbstractStringBuilder" (18 : Nat) "java/lang/String" "COMPACT_STRINGS" "Z") ∈ tables_1 := List.mem_of_getElem? (i := 52) rfl
theorem wd_53 : (Jvm.Cond.fieldLink "java/lang/AbstractStringBuilder" (15 : Nat) "java/lang/AbstractStringBuilder" "value" "[B") ∈ tables_1 := List.mem_of_getElem? (i := 53) rfl
theorem wd_54 : (Jvm.Cond.lays "java/lang/StringBuilder" "java/lang/AbstractStringBuilder" "value" "[B") ∈ tables_1 := List.mem_of_getElem? (i := 54) rfl
theorem wd_55 : (Jvm.Cond.fieldLink "java/lang/AbstractStringBuilder" (22 : Nat) "java/lang/AbstractStringBuilder" "coder" "B") ∈ tables_1 := List.mem_of_getElem? (i := 55) rfl
theorem wd_56 : (Jvm.Cond.lays "java/lang/StringBuilder" "java/lang/AbstractStringBuilder" "coder" "B") ∈ tables_1 := List.mem_of_getElem? (i := 56) rfl
theorem wd_57 : (Jvm.Cond.stringLink "com/example/likeness/likeness/property/Elements" (107 : Nat) "the entry \"") ∈ tables_1 := List.mem_of_getElem? (i := 57) rfl
theorem wd_58 : (Jvm.Cond.soleField "java/lang/String" "value") ∈ tables_1 := List.mem_of_getElem? (i := 58) rfl
theorem wd_59 : (Jvm.Cond.soleField "java/lang/String" "coder") ∈ tables_1 := List.mem_of_getElem? (i := 59) rfl
theorem wd_60 : (Jvm.Cond.methodLink "com/example/likeness/likeness/property/Elements" (59 : Nat) ({ cls := "java/lang/StringBuilder", name := "append", desc := "(Ljava/lang/String;)Ljava/lang/StringBuilder;" } : Jvm.MethodName)) ∈ tables_1 := List.mem_of_getElem? (i := 60) rfl
theorem wd_61 : (Jvm.Cond.declares ({ cls := "java/lang/StringBuilder", name := "append", desc := "(Ljava/lang/String;)Ljava/lang/StringBuilder;" } : Jvm.MethodName)) ∈ tables_1 := List.mem_of_getElem? (i := 61) rfl
theorem wd_62 : (Jvm.Cond.instanceMethod ({ cls := "java/lang/StringBuilder", name := "append", desc := "(Ljava/lang/String;)Ljava/lang/StringBuilder;" } : Jvm.MethodName)) ∈ tables_1 := List.mem_of_getElem? (i := 62) rfl
theorem wd_63 : (Jvm.Cond.selects "java/lang/StringBuilder" ({ cls := "java/lang/StringBuilder", name := "append", desc := "(Ljava/lang/String;)Ljava/lang/StringBuilder;" } : Jvm.MethodName) ({ cls := "java/lang/StringBuilder", name := "append", desc := "(Ljava/lang/String;)Ljava/lang/StringBuilder;" } : Jvm.MethodName)) ∈ tables_1 := List.mem_of_getElem? (i := 63) rfl
theorem wd_64 : (Jvm.Cond.code ({ cls := "java/lang/StringBuilder", name := "append", desc := "(Ljava/lang/String;)Ljava/lang/StringBuilder;" } : Jvm.MethodName) jdk_67_method_7_code (2 : Nat) (Option.some (Jvm.ClassFile.FieldType.object "java/lang/StringBuilder"))) ∈ tables_1 := List.mem_of_getElem? (i := 64) rfl
theorem wd_65 : (Jvm.Cond.methodLink "java/lang/StringBuilder" (29 : Nat) ({ cls := "java/lang/AbstractStringBuilder", name := "append", desc := "(Ljava/lang/String;)Ljava/lang/AbstractStringBuilder;" } : Jvm.MethodName)) ∈ tables_1 := List.mem_of_getElem? (i := 65) rfl
theorem wd_66 : (Jvm.Cond.instanceMethod ({ cls := "java/lang/AbstractStringBuilder", name := "append", desc := "(Ljava/lang/String;)Ljava/lang/AbstractStringBuilder;" } : Jvm.MethodName)) ∈ tables_1 := List.mem_of_getElem? (i := 66) rfl
theorem wd_67 : (Jvm.Cond.superclass "java/lang/StringBuilder" "java/lang/AbstractStringBuilder") ∈ tables_1 := List.mem_of_getElem? (i := 67) rfl
theorem wd_68 : (Jvm.Cond.declares ({ cls := "java/lang/AbstractStringBuilder", name := "append", desc := "(Ljava/lang/String;)Ljava/lang/AbstractStringBuilder;" } : Jvm.MethodName)) ∈ tables_1 := List.mem_of_getElem? (i := 68) rfl
theorem wd_69 : (Jvm.Cond.code ({ cls := "java/lang/AbstractStringBuilder", name := "append", desc := "(Ljava/lang/String;)Ljava/lang/AbstractStringBuilder;" } : Jvm.MethodName) jdk_68_method_22_code (3 : Nat) (Option.some (Jvm.ClassFile.FieldType.object "java/lang/AbstractStringBuilder"))) ∈ tables_1 := List.mem_of_getElem? (i := 69) rfl
theorem wd_70 : (Jvm.Cond.methodLink "java/lang/AbstractStringBuilder" (32 : Nat) ({ cls := "java/lang/String", name := "length", desc := "()I" } : Jvm.MethodName)) ∈ tables_1 := List.mem_of_getElem? (i := 70) rfl
theorem wd_71 : (Jvm.Cond.declares ({ cls := "java/lang/String", name := "length", desc := "()I" } : Jvm.MethodName)) ∈ tables_1 := List.mem_of_getElem? (i := 71) rfl
theorem wd_72 : (Jvm.Cond.instanceMethod ({ cls := "java/lang/String", name := "length", desc := "()I" } : Jvm.MethodName)) ∈ tables_1 := List.mem_of_getElem? (i := 72) rfl
theorem wd_73 : (Jvm.Cond.selects "java/lang/String" ({ cls := "java/lang/String", name := "length", desc := "()I" } : Jvm.MethodName) ({ cls := "java/lang/String", name := "length", desc := "()I" } : Jvm.MethodName)) ∈ tables_1 := List.mem_of_getElem? (i := 73) rfl
theorem wd_75 : (Jvm.Cond.methodLink "java/lang/String" (335 : Nat) ({ cls := "java/lang/String", name := "coder", desc := "()B" } : Jvm.MethodName)) ∈ tables_1 := List.mem_of_getElem? (i := 75) rfl
theorem wd_76 : (Jvm.Cond.declares ({ cls := "java/lang/String", name := "coder", desc := "()B" } : Jvm.MethodName)) ∈ tables_1 := List.mem_of_getElem? (i := 76) rfl
theorem wd_77 : (Jvm.Cond.instanceMethod ({ cls := "java/lang/String", name := "coder", desc := "()B" } : Jvm.MethodName)) ∈ tables_1 := List.mem_of_getElem? (i := 77) rfl
theorem wd_78 : (Jvm.Cond.selects "java/lang/String" ({ cls := "java/lang/String", name := "coder", desc := "()B" } : Jvm.MethodName) ({ cls := "java/lang/String", name := "coder", desc := "()B" } : Jvm.MethodName)) ∈ tables_1 := List.mem_of_getElem? (i := 78) rfl
theorem wd_79 : (Jvm.Cond.code ({ cls := "java/lang/String", name := "coder", desc := "()B" } : Jvm.MethodName) jdk_42_method_152_code (1 : Nat) (Option.some Jvm.ClassFile.FieldType.byte)) ∈ tables_1 := List.mem_of_getElem? (i := 79) rfl
theorem wd_80 : (Jvm.Cond.fieldLink "java/lang/AbstractStringBuilder" (79 : Nat) "java/lang/AbstractStringBuilder" "count" "I") ∈ tables_1 := List.mem_of_getElem? (i := 80) rfl
theorem wd_81 : (Jvm.Cond.lays "java/lang/StringBuilder" "java/lang/AbstractStringBuilder" "count" "I") ∈ tables_1 := List.mem_of_getElem? (i := 81) rfl
theorem wd_82 : (Jvm.Cond.methodLink "java/lang/AbstractStringBuilder" (100 : Nat) ({ cls := "java/lang/AbstractStringBuilder", name := "ensureCapacityInternal", desc := "(I)V" } : Jvm.MethodName)) ∈ tables_1 := List.mem_of_getElem? (i := 82) rfl
theorem wd_83 : (Jvm.Cond.instanceMethod ({ cls := "java/lang/AbstractStringBuilder", name := "ensureCapacityInternal", desc := "(I)V" } : Jvm.MethodName)) ∈ tables_1 := List.mem_of_getElem? (i := 83) rfl
theorem wd_84 : (Jvm.Cond.privateMethod ({ cls := "java/lang/AbstractStringBuilder", name := "ensureCapacityInternal", desc := "(I)V" } : Jvm.MethodName)) ∈ tables_1 := List.mem_of_getElem? (i := 84) rfl
theorem wd_85 : (Jvm.Cond.selects "java/lang/StringBuilder" ({ cls := "java/lang/AbstractStringBuilder", name := "ensureCapacityInternal", desc := "(I)V" } : Jvm.MethodName) ({ cls := "java/lang/AbstractStringBuilder", name := "ensureCapacityInternal", desc := "(I)V" } : Jvm.MethodName)) ∈ tables_1 := List.mem_of_getElem? (i := 85) rfl
theorem wd_86 : (Jvm.Cond.code ({ cls := "java/lang/AbstractStringBuilder", name := "ensureCapacityInternal", desc := "(I)V" } : Jvm.MethodName) jdk_68_method_9_code (3 : Nat) (Option.none : Option Jvm.ClassFile.FieldType)) ∈ tables_1 := List.mem_of_getElem? (i := 86) rfl
theorem wd_87 : (Jvm.Cond.methodLink "java/lang/AbstractStringBuilder" (208 : Nat) ({ cls := "java/lang/AbstractStringBuilder", name := "putStringAt", desc := "(ILjava/lang/String;)V" } : Jvm.MethodName)) ∈ tables_1 := List.mem_of_getElem? (i := 87) rfl
theorem wd_88 : (Jvm.Cond.instanceMethod ({ cls := "java/lang/AbstractStringBuilder", name := "putStringAt", desc := "(ILjava/lang/String;)V" } : Jvm.MethodName)) ∈ tables_1 := List.mem_of_getElem? (i := 88) rfl
theorem wd_89 : (Jvm.Cond.privateMethod ({ cls := "java/lang/AbstractStringBuilder", name := "putStringAt", desc := "(ILjava/lang/String;)V" } : Jvm.MethodName)) ∈ tables_1 := List.mem_of_getElem? (i := 89) rfl
theorem wd_90 : (Jvm.Cond.selects "java/lang/StringBuilder" ({ cls := "java/lang/AbstractStringBuilder", name := "putStringAt", desc := "(ILjava/lang/String;)V" } : Jvm.MethodName) ({ cls := "java/lang/AbstractStringBuilder", name := "putStringAt", desc := "(ILjava/lang/String;)V" } : Jvm.MethodName)) ∈ tables_1 := List.mem_of_getElem? (i := 90) rfl
theorem wd_91 : (Jvm.Cond.code ({ cls := "java/lang/AbstractStringBuilder", name := "putStringAt", desc := "(ILjava/lang/String;)V" } : Jvm.MethodName) jdk_68_method_73_code (3 : Nat) (Option.none : Option Jvm.ClassFile.FieldType)) ∈ tables_1 := List.mem_of_getElem? (i := 91) rfl
theorem wd_92 : (Jvm.Cond.methodLink "java/lang/AbstractStringBuilder" (397 : Nat) ({ cls := "java/lang/AbstractStringBuilder", name := "inflateIfNeededFor", desc := "(Ljava/lang/String;)V" } : Jvm.MethodName)) ∈ tables_1 := List.mem_of_getElem? (i := 92) rfl
theorem wd_93 : (Jvm.Cond.instanceMethod ({ cls := "java/lang/AbstractStringBuilder", name := "inflateIfNeededFor", desc := "(Ljava/lang/String;)V" } : Jvm.MethodName)) ∈ tables_1 := List.mem_of_getElem? (i := 93) rfl
theorem wd_94 : (Jvm.Cond.privateMethod ({ cls := "java/lang/AbstractStringBuilder", name := "inflateIfNeededFor", desc := "(Ljava/lang/String;)V" } : Jvm.MethodName)) ∈ tables_1 := List.mem_of_getElem? (i := 94) rfl
theorem wd_95 : (Jvm.Cond.selects "java/lang/StringBuilder" ({ cls := "java/lang/AbstractStringBuilder", name := "inflateIfNeededFor", desc := "(Ljava/lang/String;)V" } : Jvm.MethodName) ({ cls := "java/lang/AbstractStringBuilder", name := "inflateIfNeededFor", desc := "(Ljava/lang/String;)V" } : Jvm.MethodName)) ∈ tables_1 := List.mem_of_getElem? (i := 95) rfl
theorem wd_96 : (Jvm.Cond.code ({ cls := "java/lang/AbstractStringBuilder", name := "inflateIfNeededFor", desc := "(Ljava/lang/String;)V" } : Jvm.MethodName) jdk_68_method_71_code (2 : Nat) (Option.none : Option Jvm.ClassFile.FieldType)) ∈ tables_1 := List.mem_of_getElem? (i := 96) rfl
theorem wd_97 : (Jvm.Cond.methodLink "java/lang/AbstractStringBuilder" (40 : Nat) ({ cls := "java/lang/String", name := "coder", desc := "()B" } : Jvm.MethodName)) ∈ tables_1 := List.mem_of_getElem? (i := 97) rfl
theorem wd_98 : (Jvm.Cond.methodLink "java/lang/AbstractStringBuilder" (399 : Nat) ({ cls := "java/lang/String", name := "getBytes", desc := "([BIB)V" } : Jvm.MethodName)) ∈ tables_1 := List.mem_of_getElem? (i := 98) rfl
theorem wd_99 : (Jvm.Cond.declares ({ cls := "java/lang/String", name := "getBytes", desc := "([BIB)V" } : Jvm.MethodName)) ∈ tables_1 := List.mem_of_getElem? (i := 99) rfl
theorem wd_100 : (Jvm.Cond.instanceMethod ({ cls := "java/lang/String", name := "getBytes", desc := "([BIB)V" } : Jvm.MethodName)) ∈ tables_1 := List.mem_of_getElem? (i := 100) rfl
theorem wd_101 : (Jvm.Cond.selects "java/lang/String" ({ cls := "java/lang/String", name := "getBytes", desc := "([BIB)V" } : Jvm.MethodName) ({ cls := "java/lang/String", name := "getBytes", desc := "([BIB)V" } : Jvm.MethodName)) ∈ tables_1 := List.mem_of_getElem? (i := 101) rfl
theorem wd_102 : (Jvm.Cond.code ({ cls := "java/lang/String", name := "getBytes", desc := "([BIB)V" } : Jvm.MethodName) jdk_42_method_147_code (4 : Nat) (Option.none : Option Jvm.ClassFile.FieldType)) ∈ tables_1 := List.mem_of_getElem? (i := 102) rfl
theorem wd_103 : (Jvm.Cond.methodLink "java/lang/String" (212 : Nat) ({ cls := "java/lang/System", name := "arraycopy", desc := "(Ljava/lang/Object;ILjava/lang/Object;II)V" } : Jvm.MethodName)) ∈ tables_1 := List.mem_of_getElem? (i := 103) rfl
theorem wd_104 : (Jvm.Cond.static ({ cls := "java/lang/System", name := "arraycopy", desc := "(Ljava/lang/Object;ILjava/lang/Object;II)V" } : Jvm.MethodName)) ∈ tables_1 := List.mem_of_getElem? (i := 104) rfl
theorem wd_105 : (Jvm.Cond.initialized "java/lang/System") ∈ tables_1 := List.mem_of_getElem? (i := 105) rfl
theorem wd_106 : (Jvm.Cond.native ({ cls := "java/lang/System", name := "arraycopy", desc := "(Ljava/lang/Object;ILjava/lang/Object;II)V" } : Jvm.MethodName)) ∈ tables_1 := List.mem_of_getElem? (i := 106) rfl
theorem wd_107 : (Jvm.Cond.stringLink "com/example/likeness/likeness/property/Elements" (109 : Nat) "\"") ∈ tables_1 := List.mem_of_getElem? (i := 107) rfl
theorem wd_108 : (Jvm.Cond.methodLink "com/example/likeness/likeness/property/Elements" (66 : Nat) ({ cls := "java/lang/StringBuilder", name := "toString", desc := "()Ljava/lang/String;" } : Jvm.MethodName)) ∈ tables_1 := List.mem_of_getElem? (i := 108) rfl
theorem wd_109 : (Jvm.Cond.declares ({ cls := "java/lang/StringBuilder", name := "toString", desc := "()Ljava/lang/String;" } : Jvm.MethodName)) ∈ tables_1 := List.mem_of_getElem? (i := 109) rfl
theorem wd_110 : (Jvm.Cond.instanceMethod ({ cls := "java/lang/StringBuilder", name := "toString", desc := "()Ljava/lang/String;" } : Jvm.MethodName)) ∈ tables_1 := List.mem_of_getElem? (i := 110) rfl
theorem wd_111 : (Jvm.Cond.selects "java/lang/StringBuilder" ({ cls := "java/lang/StringBuilder", name := "toString", desc := "()Ljava/lang/String;" } : Jvm.MethodName) ({ cls := "java/lang/StringBuilder", name := "toString", desc := "()Ljava/lang/String;" } : Jvm.MethodName)) ∈ tables_1 := List.mem_of_getElem? (i := 111) rfl
theorem wd_112 : (Jvm.Cond.code ({ cls := "java/lang/StringBuilder", name := "toString", desc := "()Ljava/lang/String;" } : Jvm.MethodName) jdk_67_method_42_code (1 : Nat) (Option.some (Jvm.ClassFile.FieldType.object "java/lang/String"))) ∈ tables_1 := List.mem_of_getElem? (i := 112) rfl
theorem wd_113 : (Jvm.Cond.classLink "java/lang/StringBuilder" (18 : Nat) "java/lang/String") ∈ tables_1 := List.mem_of_getElem? (i := 113) rfl
theorem wd_114 : (Jvm.Cond.methodLink "java/lang/StringBuilder" (137 : Nat) ({ cls := "java/lang/String", name := "<init>", desc := "(Ljava/lang/StringBuilder;)V" } : Jvm.MethodName)) ∈ tables_1 := List.mem_of_getElem? (i := 114) rfl
theorem wd_115 : (Jvm.Cond.instanceMethod ({ cls := "java/lang/String", name := "<init>", desc := "(Ljava/lang/StringBuilder;)V" } : Jvm.MethodName)) ∈ tables_1 := List.mem_of_getElem? (i := 115) rfl
theorem wd_116 : (Jvm.Cond.code ({ cls := "java/lang/String", name := "<init>", desc := "(Ljava/lang/StringBuilder;)V" } : Jvm.MethodName) jdk_42_method_53_code (2 : Nat) (Option.none : Option Jvm.ClassFile.FieldType)) ∈ tables_1 := List.mem_of_getElem? (i := 116) rfl
theorem wd_117 : (Jvm.Cond.methodLink "java/lang/String" (489 : Nat) ({ cls := "java/lang/String", name := "<init>", desc := "(Ljava/lang/AbstractStringBuilder;Ljava/lang/Void;)V" } : Jvm.MethodName)) ∈ tables_1 := List.mem_of_getElem? (i := 117) rfl
theorem wd_118 : (Jvm.Cond.instanceMethod ({ cls := "java/lang/String", name := "<init>", desc := "(Ljava/lang/AbstractStringBuilder;Ljava/lang/Void;)V" } : Jvm.MethodName)) ∈ tables_1 := List.mem_of_getElem? (i := 118) rfl
theorem wd_119 : (Jvm.Cond.code ({ cls := "java/lang/String", name := "<init>", desc := "(Ljava/lang/AbstractStringBuilder;Ljava/lang/Void;)V" } : Jvm.MethodName) jdk_42_method_150_code (5 : Nat) (Option.none : Option Jvm.ClassFile.FieldType)) ∈ tables_1 := List.mem_of_getElem? (i := 119) rfl
theorem wd_120 : (Jvm.Cond.methodLink "java/lang/String" (552 : Nat) ({ cls := "java/lang/AbstractStringBuilder", name := "getValue", desc := "()[B" } : Jvm.MethodName)) ∈ tables_1 := List.mem_of_getElem? (i := 120) rfl
theorem wd_121 : (Jvm.Cond.declares ({ cls := "java/lang/AbstractStringBuilder", name := "getValue", desc := "()[B" } : Jvm.MethodName)) ∈ tables_1 := List.mem_of_getElem? (i := 121) rfl
theorem wd_122 : (Jvm.Cond.instanceMethod ({ cls := "java/lang/AbstractStringBuilder", name := "getValue", desc := "()[B" } : Jvm.MethodName)) ∈ tables_1 := List.mem_of_getElem? (i := 122) rfl
theorem wd_123 : (Jvm.Cond.selects "java/lang/StringBuilder" ({ cls := "java/lang/AbstractStringBuilder", name := "getValue", desc := "()[B" } : Jvm.MethodName) ({ cls := "java/lang/AbstractStringBuilder", name := "getValue", desc := "()[B" } : Jvm.MethodName)) ∈ tables_1 := List.mem_of_getElem? (i := 123) rfl
theorem wd_124 : (Jvm.Cond.code ({ cls := "java/lang/AbstractStringBuilder", name := "getValue", desc := "()[B" } : Jvm.MethodName) jdk_68_method_64_code (1 : Nat) (Option.some (Jvm.ClassFile.FieldType.array Jvm.ClassFile.FieldType.byte))) ∈ tables_1 := List.mem_of_getElem? (i := 124) rfl
theorem wd_125 : (Jvm.Cond.methodLink "java/lang/String" (549 : Nat) ({ cls := "java/lang/AbstractStringBuilder", name := "length", desc := "()I" } : Jvm.MethodName)) ∈ tables_1 := List.mem_of_getElem? (i := 125) rfl
theorem wd_126 : (Jvm.Cond.declares ({ cls := "java/lang/AbstractStringBuilder", name := "length", desc := "()I" } : Jvm.MethodName)) ∈ tables_1 := List.mem_of_getElem? (i := 126) rfl
theorem wd_127 : (Jvm.Cond.instanceMethod ({ cls := "java/lang/AbstractStringBuilder", name := "length", desc := "()I" } : Jvm.MethodName)) ∈ tables_1 := List.mem_of_getElem? (i := 127) rfl
theorem wd_128 : (Jvm.Cond.selects "java/lang/StringBuilder" ({ cls := "java/lang/AbstractStringBuilder", name := "length", desc := "()I" } : Jvm.MethodName) ({ cls := "java/lang/StringBuilder", name := "length", desc := "()I" } : Jvm.MethodName)) ∈ tables_1 := List.mem_of_getElem? (i := 128) rfl
theorem wd_129 : (Jvm.Cond.instanceMethod ({ cls := "java/lang/StringBuilder", name := "length", desc := "()I" } : Jvm.MethodName)) ∈ tables_1 := List.mem_of_getElem? (i := 129) rfl
theorem wd_130 : (Jvm.Cond.code ({ cls := "java/lang/StringBuilder", name := "length", desc := "()I" } : Jvm.MethodName) jdk_67_method_93_code (1 : Nat) (Option.some Jvm.ClassFile.FieldType.int)) ∈ tables_1 := List.mem_of_getElem? (i := 130) rfl
theorem wd_131 : (Jvm.Cond.methodLink "java/lang/StringBuilder" (343 : Nat) ({ cls := "java/lang/AbstractStringBuilder", name := "length", desc := "()I" } : Jvm.MethodName)) ∈ tables_1 := List.mem_of_getElem? (i := 131) rfl
theorem wd_132 : (Jvm.Cond.code ({ cls := "java/lang/AbstractStringBuilder", name := "length", desc := "()I" } : Jvm.MethodName) jdk_68_method_6_code (1 : Nat) (Option.some Jvm.ClassFile.FieldType.int)) ∈ tables_1 := List.mem_of_getElem? (i := 132) rfl
theorem wd_133 : (Jvm.Cond.methodLink "java/lang/String" (1047 : Nat) ({ cls := "java/lang/AbstractStringBuilder", name := "isLatin1", desc := "()Z" } : Jvm.MethodName)) ∈ tables_1 := List.mem_of_getElem? (i := 133) rfl
theorem wd_134 : (Jvm.Cond.declares ({ cls := "java/lang/AbstractStringBuilder", name := "isLatin1", desc := "()Z" } : Jvm.MethodName)) ∈ tables_1 := List.mem_of_getElem? (i := 134) rfl
theorem wd_135 : (Jvm.Cond.instanceMethod ({ cls := "java/lang/AbstractStringBuilder", name := "isLatin1", desc := "()Z" } : Jvm.MethodName)) ∈ tables_1 := List.mem_of_getElem? (i := 135) rfl
theorem wd_136 : (Jvm.Cond.selects "java/lang/StringBuilder" ({ cls := "java/lang/AbstractStringBuilder", name := "isLatin1", desc := "()Z" } : Jvm.MethodName) ({ cls := "java/lang/AbstractStringBuilder", name := "isLatin1", desc := "()Z" } : Jvm.MethodName)) ∈ tables_1 := List.mem_of_getElem? (i := 136) rfl
theorem wd_137 : (Jvm.Cond.code ({ cls := "java/lang/AbstractStringBuilder", name := "isLatin1", desc := "()Z" } : Jvm.MethodName) jdk_68_method_68_code (1 : Nat) (Option.some Jvm.ClassFile.FieldType.boolean)) ∈ tables_1 := List.mem_of_getElem? (i := 137) rfl
theorem wd_138 : (Jvm.Cond.methodLink "java/lang/String" (54 : Nat) ({ cls := "java/util/Arrays", name := "copyOfRange", desc := "([BII)[B" } : Jvm.MethodName)) ∈ tables_1 := List.mem_of_getElem? (i := 138) rfl
theorem wd_139 : (Jvm.Cond.static ({ cls := "java/util/Arrays", name := "copyOfRange", desc := "([BII)[B" } : Jvm.MethodName)) ∈ tables_1 := List.mem_of_getElem? (i := 139) rfl
theorem wd_140 : (Jvm.Cond.initialized "java/util/Arrays") ∈ tables_1 := List.mem_of_getElem? (i := 140) rfl
theorem wd_141 : (Jvm.Cond.code ({ cls := "java/util/Arrays", name := "copyOfRange", desc := "([BII)[B" } : Jvm.MethodName) jdk_65_method_132_code (3 : Nat) (Option.some (Jvm.ClassFile.FieldType.array Jvm.ClassFile.FieldType.byte))) ∈ tables_1 := List.mem_of_getElem? (i := 141) rfl
theorem wd_142 : (Jvm.Cond.methodLink "java/util/Arrays" (339 : Nat) ({ cls := "java/util/Arrays", name := "copyOfRangeByte", desc := "([BII)[B" } : Jvm.MethodName)) ∈ tables_1 := List.mem_of_getElem? (i := 142) rfl
theorem wd_143 : (Jvm.Cond.static ({ cls := "java/util/Arrays", name := "copyOfRangeByte", desc := "([BII)[B" } : Jvm.MethodName)) ∈ tables_1 := List.mem_of_getElem? (i := 143) rfl
theorem wd_144 : (Jvm.Cond.code ({ cls := "java/util/Arrays", name := "copyOfRangeByte", desc := "([BII)[B" } : Jvm.MethodName) jdk_65_method_133_code (5 : Nat) (Option.some (Jvm.ClassFile.FieldType.array Jvm.ClassFile.FieldType.byte))) ∈ tables_1 := List.mem_of_getElem? (i := 144) rfl
theorem wd_145 : (Jvm.Cond.methodLink "java/util/Arrays" (343 : Nat) ({ cls := "java/util/Arrays", name := "checkLength", desc := "(II)V" } : Jvm.MethodName)) ∈ tables_1 := List.mem_of_getElem? (i := 145) rfl
theorem wd_146 : (Jvm.Cond.static ({ cls := "java/util/Arrays", name := "checkLength", desc := "(II)V" } : Jvm.MethodName)) ∈ tables_1 := List.mem_of_getElem? (i := 146) rfl
theorem wd_147 : (Jvm.Cond.code ({ cls := "java/util/Arrays", name := "checkLength", desc := "(II)V" } : Jvm.MethodName) jdk_65_method_131_code (2 : Nat) (Option.none : Option Jvm.ClassFile.FieldType)) ∈ tables_1 := List.mem_of_getElem? (i := 147) rfl
theorem wd_148 : (Jvm.Cond.methodLink "java/util/Arrays" (304 : Nat) ({ cls := "java/lang/Math", name := "min", desc := "(II)I" } : Jvm.MethodName)) ∈ tables_1 := List.mem_of_getElem? (i := 148) rfl
theorem wd_149 : (Jvm.Cond.static ({ cls := "java/lang/Math", name := "min", desc := "(II)I" } : Jvm.MethodName)) ∈ tables_1 := List.mem_of_getElem? (i := 149) rfl
theorem wd_150 : (Jvm.Cond.initialized "java/lang/Math") ∈ tables_1 := List.mem_of_getElem? (i := 150) rfl
theorem wd_151 : (Jvm.Cond.code ({ cls := "java/lang/Math", name := "min", desc := "(II)I" } : Jvm.MethodName) jdk_29_method_69_code (2 : Nat) (Option.some Jvm.ClassFile.FieldType.int)) ∈ tables_1 := List.mem_of_getElem? (i := 151) rfl
theorem wd_152 : (Jvm.Cond.methodLink "java/util/Arrays" (150 : Nat) ({ cls := "java/lang/System", name := "arraycopy", desc := "(Ljava/lang/Object;ILjava/lang/Object;II)V" } : Jvm.MethodName)) ∈ tables_1 := List.mem_of_getElem? (i := 152) rfl
theorem wd_153 : (Jvm.Cond.lambdaSite ({ cls := "com/example/likeness/likeness/property/Elements", name := "entryWriter", desc := "(Ljava/lang/String;)Lcom/example/likeness/likeness/property/PropertyWriter;" } : Jvm.MethodName) (32 : Nat) (111 : Nat) (Jvm.Lambda.Shape.mk "com/example/likeness/likeness/property/PropertyWriter$Access" "write" (Jvm.ClassFile.MethodDescriptor.mk ([(Jvm.ClassFile.FieldType.object "java/lang/Object"), (Jvm.ClassFile.FieldType.object "java/lang/Object")] : List Jvm.ClassFile.FieldType) (Option.none : Option Jvm.ClassFile.FieldType)) ([(Jvm.ClassFile.FieldType.object "java/lang/String")] : List Jvm.ClassFile.FieldType) (6 : Nat) "com/example/likeness/likeness/property/Elements" "lambda$entryWriter$4" (Jvm.ClassFile.MethodDescriptor.mk ([(Jvm.ClassFile.FieldType.object "java/lang/String"), (Jvm.ClassFile.FieldType.object "java/lang/Object"), (Jvm.ClassFile.FieldType.object "java/lang/Object")] : List Jvm.ClassFile.FieldType) (Option.none : Option Jvm.ClassFile.FieldType)) false (Jvm.ClassFile.MethodDescriptor.mk ([(Jvm.ClassFile.FieldType.object "java/lang/Object"), (Jvm.ClassFile.FieldType.object "java/lang/Object")] : List Jvm.ClassFile.FieldType) (Option.none : Option Jvm.ClassFile.FieldType)))) ∈ tables_1 := List.mem_of_getElem? (i := 153) rfl
theorem wd_156 : (Jvm.Cond.instantiable "java/lang/Object" (0 : Nat)) ∈ tables_1 := List.mem_of_getElem? (i := 156) rfl
theorem wd_157 : (Jvm.Cond.methodLink "com/example/likeness/likeness/property/Elements" (115 : Nat) ({ cls := "com/example/likeness/likeness/property/PropertyWriter", name := "<init>", desc := "(Ljava/lang/String;Ljava/lang/reflect/Type;Ljava/lang/String;Lcom/example/likeness/likeness/property/PropertyWriter$Access;)V" } : Jvm.MethodName)) ∈ tables_1 := List.mem_of_getElem? (i := 157) rfl
theorem wd_158 : (Jvm.Cond.instanceMethod ({ cls := "com/example/likeness/likeness/property/PropertyWriter", name := "<init>", desc := "(Ljava/lang/String;Ljava/lang/reflect/Type;Ljava/lang/String;Lcom/example/likeness/likeness/property/PropertyWriter$Access;)V" } : Jvm.MethodName)) ∈ tables_1 := List.mem_of_getElem? (i := 158) rfl
theorem wd_159 : (Jvm.Cond.code ({ cls := "com/example/likeness/likeness/property/PropertyWriter", name := "<init>", desc := "(Ljava/lang/String;Ljava/lang/reflect/Type;Ljava/lang/String;Lcom/example/likeness/likeness/property/PropertyWriter$Access;)V" } : Jvm.MethodName) prog_52_method_1_code (5 : Nat) (Option.none : Option Jvm.ClassFile.FieldType)) ∈ tables_1 := List.mem_of_getElem? (i := 159) rfl
theorem wd_160 : (Jvm.Cond.methodLink "com/example/likeness/likeness/property/PropertyWriter" (1 : Nat) ({ cls := "com/example/likeness/likeness/property/PropertyWriter", name := "<init>", desc := "(Ljava/lang/String;Ljava/lang/reflect/Type;Ljava/lang/String;Lcom/example/likeness/likeness/property/PropertyWriter$Access;Z)V" } : Jvm.MethodName)) ∈ tables_1 := List.mem_of_getElem? (i := 160) rfl
theorem wd_161 : (Jvm.Cond.instanceMethod ({ cls := "com/example/likeness/likeness/property/PropertyWriter", name := "<init>", desc := "(Ljava/lang/String;Ljava/lang/reflect/Type;Ljava/lang/String;Lcom/example/likeness/likeness/property/PropertyWriter$Access;Z)V" } : Jvm.MethodName)) ∈ tables_1 := List.mem_of_getElem? (i := 161) rfl
theorem wd_162 : (Jvm.Cond.code ({ cls := "com/example/likeness/likeness/property/PropertyWriter", name := "<init>", desc := "(Ljava/lang/String;Ljava/lang/reflect/Type;Ljava/lang/String;Lcom/example/likeness/likeness/property/PropertyWriter$Access;Z)V" } : Jvm.MethodName) prog_52_method_2_code (6 : Nat) (Option.none : Option Jvm.ClassFile.FieldType)) ∈ tables_1 := List.mem_of_getElem? (i := 162) rfl
theorem wd_163 : (Jvm.Cond.methodLink "com/example/likeness/likeness/property/PropertyWriter" (7 : Nat) ({ cls := "com/example/likeness/likeness/property/PropertyWriter", name := "<init>", desc := "(Ljava/lang/String;Ljava/lang/reflect/Type;Ljava/lang/String;Lcom/example/likeness/likeness/property/PropertyWriter$Access;ZLjava/lang/invoke/MethodHandle;Ljava/lang/invoke/MethodHandle;)V" } : Jvm.MethodName)) ∈ tables_1 := List.mem_of_getElem? (i := 163) rfl
theorem wd_164 : (Jvm.Cond.instanceMethod ({ cls := "com/example/likeness/likeness/property/PropertyWriter", name := "<init>", desc := "(Ljava/lang/String;Ljava/lang/reflect/Type;Ljava/lang/String;Lcom/example/likeness/likeness/property/PropertyWriter$Access;ZLjava/lang/invoke/MethodHandle;Ljava/lang/invoke/MethodHandle;)V" } : Jvm.MethodName)) ∈ tables_1 := List.mem_of_getElem? (i := 164) rfl
theorem wd_165 : (Jvm.Cond.code ({ cls := "com/example/likeness/likeness/property/PropertyWriter", name := "<init>", desc := "(Ljava/lang/String;Ljava/lang/reflect/Type;Ljava/lang/String;Lcom/example/likeness/likeness/property/PropertyWriter$Access;ZLjava/lang/invoke/MethodHandle;Ljava/lang/invoke/MethodHandle;)V" } : Jvm.MethodName) prog_52_method_3_code (8 : Nat) (Option.none : Option Jvm.ClassFile.FieldType)) ∈ tables_1 := List.mem_of_getElem? (i := 165) rfl
theorem wd_166 : (Jvm.Cond.methodLink "com/example/likeness/likeness/property/PropertyWriter" (10 : Nat) ({ cls := "java/lang/Object", name := "<init>", desc := "()V" } : Jvm.MethodName)) ∈ tables_1 := List.mem_of_getElem? (i := 166) rfl
theorem wd_167 : (Jvm.Cond.fieldLink "com/example/likeness/likeness/property/PropertyWriter" (15 : Nat) "com/example/likeness/likeness/property/PropertyWriter" "name" "Ljava/lang/String;") ∈ tables_1 := List.mem_of_getElem? (i := 167) rfl
theorem wd_168 : (Jvm.Cond.laysFinal "com/example/likeness/likeness/property/PropertyWriter" "com/example/likeness/likeness/property/PropertyWriter" "name" "Ljava/lang/String;") ∈ tables_1 := List.mem_of_getElem? (i := 168) rfl
theorem wd_169 : (Jvm.Cond.fieldLink "com/example/likeness/likeness/property/PropertyWriter" (19 : Nat) "com/example/likeness/likeness/property/PropertyWriter" "type" "Ljava/lang/reflect/Type;") ∈ tables_1 := List.mem_of_getElem? (i := 169) rfl
theorem wd_170 : (Jvm.Cond.laysFinal "com/example/likeness/likeness/property/PropertyWriter" "com/example/likeness/likeness/property/PropertyWriter" "type" "Ljava/lang/reflect/Type;") ∈ tables_1 := List.mem_of_getElem? (i := 170) rfl
theorem wd_171 : (Jvm.Cond.fieldLink "com/example/likeness/likeness/property/PropertyWriter" (23 : Nat) "com/example/likeness/likeness/property/PropertyWriter" "accessor" "Ljava/lang/String;") ∈ tables_1 := List.mem_of_getElem? (i := 171) rfl
theorem wd_172 : (Jvm.Cond.laysFinal "com/example/likeness/likeness/property/PropertyWriter" "com/example/likeness/likeness/property/PropertyWriter" "accessor" "Ljava/lang/String;") ∈ tables_1 := List.mem_of_getElem? (i := 172) rfl
theorem wd_173 : (Jvm.Cond.fieldLink "com/example/likeness/likeness/property/PropertyWriter" (26 : Nat) "com/example/likeness/likeness/property/PropertyWriter" "access" "Lcom/example/likeness/likeness/property/PropertyWriter$Access;") ∈ tables_1 := List.mem_of_getElem? (i := 173) rfl
theorem wd_174 : (Jvm.Cond.laysFinal "com/example/likeness/likeness/property/PropertyWriter" "com/example/likeness/likeness/property/PropertyWriter" "access" "Lcom/example/likeness/likeness/property/PropertyWriter$Access;") ∈ tables_1 := List.mem_of_getElem? (i := 174) rfl
theorem wd_175 : (Jvm.Cond.fieldLink "com/example/likeness/likeness/property/PropertyWriter" (30 : Nat) "com/example/likeness/likeness/property/PropertyWriter" "fillsHeld" "Z") ∈ tables_1 := List.mem_of_getElem? (i := 175) rfl
theorem wd_176 : (Jvm.Cond.laysFinal "com/example/likeness/likeness/property/PropertyWriter" "com/example/likeness/likeness/property/PropertyWriter" "fillsHeld" "Z") ∈ tables_1 := List.mem_of_getElem? (i := 176) rfl
theorem wd_177 : (Jvm.Cond.fieldLink "com/example/likeness/likeness/property/PropertyWriter" (34 : Nat) "com/example/likeness/likeness/property/PropertyWriter" "member" "Ljava/lang/invoke/MethodHandle;") ∈ tables_1 := List.mem_of_getElem? (i := 177) rfl
theorem wd_178 : (Jvm.Cond.laysFinal "com/example/likeness/likeness/property/PropertyWriter" "com/example/likeness/likeness/property/PropertyWriter" "member" "Ljava/lang/invoke/MethodHandle;") ∈ tables_1 := List.mem_of_getElem? (i := 178) rfl
theorem wd_179 : (Jvm.Cond.fieldLink "com/example/likeness/likeness/property/PropertyWriter" (38 : Nat) "com/example/likeness/likeness/property/PropertyWriter" "handle" "Ljava/lang/invoke/MethodHandle;") ∈ tables_1 := List.mem_of_getElem? (i := 179) rfl
theorem wd_180 : (Jvm.Cond.laysFinal "com/example/likeness/likeness/property/PropertyWriter" "com/example/likeness/likeness/property/PropertyWriter" "handle" "Ljava/lang/invoke/MethodHandle;") ∈ tables_1 := List.mem_of_getElem? (i := 180) rfl
theorem wd_181 : (Jvm.Cond.methodLink "com/example/likeness/likeness/property/ElementsEntryWriterPinLaw" (22 : Nat) ({ cls := "com/example/likeness/likeness/property/PropertyWriter", name := "name", desc := "()Ljava/lang/String;" } : Jvm.MethodName)) ∈ tables_1 := List.mem_of_getElem? (i := 181) rfl
theorem wd_182 : (Jvm.Cond.declares ({ cls := "com/example/likeness/likeness/property/PropertyWriter", name := "name", desc := "()Ljava/lang/String;" } : Jvm.MethodName)) ∈ tables_1 := List.mem_of_getElem? (i := 182) rfl
theorem wd_183 : (Jvm.Cond.instanceMethod ({ cls := "com/example/likeness/likeness/property/PropertyWriter", name := "name", desc := "()Ljava/lang/String;" } : Jvm.MethodName)) ∈ tables_1 := List.mem_of_getElem? (i := 183) rfl
theorem wd_184 : (Jvm.Cond.selects "com/example/likeness/likeness/property/PropertyWriter" ({ cls := "com/example/likeness/likeness/property/PropertyWriter", name := "name", desc := "()Ljava/lang/String;" } : Jvm.MethodName) ({ cls := "com/example/likeness/likeness/property/PropertyWriter", name := "name", desc := "()Ljava/lang/String;" } : Jvm.MethodName)) ∈ tables_1 := List.mem_of_getElem? (i := 184) rfl
theorem wd_185 : (Jvm.Cond.code ({ cls := "com/example/likeness/likeness/property/PropertyWriter", name := "name", desc := "()Ljava/lang/String;" } : Jvm.MethodName) prog_52_method_5_code (1 : Nat) (Option.some (Jvm.ClassFile.FieldType.object "java/lang/String"))) ∈ tables_1 := List.mem_of_getElem? (i := 185) rfl
theorem wd_186 : (Jvm.Cond.methodLink "com/example/likeness/likeness/property/ElementsEntryWriterPinLaw" (28 : Nat) ({ cls := "java/lang/String", name := "equals", desc := "(Ljava/lang/Object;)Z" } : Jvm.MethodName)) ∈ tables_1 := List.mem_of_getElem? (i := 186) rfl
theorem wd_187 : (Jvm.Cond.declares ({ cls := "java/lang/String", name := "equals", desc := "(Ljava/lang/Object;)Z" } : Jvm.MethodName)) ∈ tables_1 := List.mem_of_getElem? (i := 187) rfl
theorem wd_188 : (Jvm.Cond.instanceMethod ({ cls := "java/lang/String", name := "equals", desc := "(Ljava/lang/Object;)Z" } : Jvm.MethodName)) ∈ tables_1 := List.mem_of_getElem? (i := 188) rfl
theorem wd_189 : (Jvm.Cond.selects "java/lang/String" ({ cls := "java/lang/String", name := "equals", desc := "(Ljava/lang/Object;)Z" } : Jvm.MethodName) ({ cls := "java/lang/String", name := "equals", desc := "(Ljava/lang/Object;)Z" } : Jvm.MethodName)) ∈ tables_1 := List.mem_of_getElem? (i := 189) rfl
theorem wd_190 : (Jvm.Cond.code ({ cls := "java/lang/String", name := "equals", desc := "(Ljava/lang/Object;)Z" } : Jvm.MethodName) jdk_42_method_66_code (3 : Nat) (Option.some Jvm.ClassFile.FieldType.boolean)) ∈ tables_1 := List.mem_of_getElem? (i := 190) rfl
theorem wd_191 : (Jvm.Cond.methodLink "com/example/likeness/likeness/property/ElementsEntryWriterPinLaw" (32 : Nat) ({ cls := "com/example/likeness/likeness/property/PropertyWriter", name := "type", desc := "()Ljava/lang/reflect/Type;" } : Jvm.MethodName)) ∈ tables_1 := List.mem_of_getElem? (i := 191) rfl
theorem wd_192 : (Jvm.Cond.declares ({ cls := "com/example/likeness/likeness/property/PropertyWriter", name := "type", desc := "()Ljava/lang/reflect/Type;" } : Jvm.MethodName)) ∈ tables_1 := List.mem_of_getElem? (i := 192) rfl
theorem wd_193 : (Jvm.Cond.instanceMethod ({ cls := "com/example/likeness/likeness/property/PropertyWriter", name := "type", desc := "()Ljava/lang/reflect/Type;" } : Jvm.MethodName)) ∈ tables_1 := List.mem_of_getElem? (i := 193) rfl
theorem wd_194 : (Jvm.Cond.selects "com/example/likeness/likeness/property/PropertyWriter" ({ cls := "com/example/likeness/likeness/property/PropertyWriter", name := "type", desc := "()Ljava/lang/reflect/Type;" } : Jvm.MethodName) ({ cls := "com/example/likeness/likeness/property/PropertyWriter", name := "type", desc := "()Ljava/lang/reflect/Type;" } : Jvm.MethodName)) ∈ tables_1 := List.mem_of_getElem? (i := 194) rfl
theorem wd_195 : (Jvm.Cond.code ({ cls := "com/example/likeness/likeness/property/PropertyWriter", name := "type", desc := "()Ljava/lang/reflect/Type;" } : Jvm.MethodName) prog_52_method_6_code (1 : Nat) (Option.some (Jvm.ClassFile.FieldType.object "java/lang/reflect/Type"))) ∈ tables_1 := List.mem_of_getElem? (i := 195) rfl
theorem wd_196 : (Jvm.Cond.classLink "com/example/likeness/likeness/property/ElementsEntryWriterPinLaw" (2 : Nat) "java/lang/Object") ∈ tables_1 := List.mem_of_getElem? (i := 196) rfl
theorem wd_197 : (Jvm.Cond.methodLink "com/example/likeness/likeness/property/ElementsEntryWriterPinLaw" (36 : Nat) ({ cls := "com/example/likeness/likeness/property/PropertyWriter", name := "fillsHeld", desc := "()Z" } : Jvm.MethodName)) ∈ tables_1 := List.mem_of_getElem? (i := 197) rfl
theorem wd_198 : (Jvm.Cond.declares ({ cls := "com/example/likeness/likeness/property/PropertyWriter", name := "fillsHeld", desc := "()Z" } : Jvm.MethodName)) ∈ tables_1 := List.mem_of_getElem? (i := 198) rfl
theorem wd_199 : (Jvm.Cond.instanceMethod ({ cls := "com/example/likeness/likeness/property/PropertyWriter", name := "fillsHeld", desc := "()Z" } : Jvm.MethodName)) ∈ tables_1 := List.mem_of_getElem? (i := 199) rfl
theorem wd_200 : (Jvm.Cond.selects "com/example/likeness/likeness/property/PropertyWriter" ({ cls := "com/example/likeness/likeness/property/PropertyWriter", name := "fillsHeld", desc := "()Z" } : Jvm.MethodName) ({ cls := "com/example/likeness/likeness/property/PropertyWriter", name := "fillsHeld", desc := "()Z" } : Jvm.MethodName)) ∈ tables_1 := List.mem_of_getElem? (i := 200) rfl
theorem wd_201 : (Jvm.Cond.code ({ cls := "com/example/likeness/likeness/property/PropertyWriter", name := "fillsHeld", desc := "()Z" } : Jvm.MethodName) prog_52_method_7_code (1 : Nat) (Option.some Jvm.ClassFile.FieldType.boolean)) ∈ tables_1 := List.mem_of_getElem? (i := 201) rfl
theorem wd_202 : (Jvm.Cond.methodLink "com/example/likeness/likeness/property/ElementsEntryWriterPinLaw" (40 : Nat) ({ cls := "com/example/likeness/likeness/property/PropertyWriter", name := "member", desc := "()Ljava/lang/invoke/MethodHandle;" } : Jvm.MethodName)) ∈ tables_1 := List.mem_of_getElem? (i := 202) rfl
theorem wd_203 : (Jvm.Cond.declares ({ cls := "com/example/likeness/likeness/property/PropertyWriter", name := "member", desc := "()Ljava/lang/invoke/MethodHandle;" } : Jvm.MethodName)) ∈ tables_1 := List.mem_of_getElem? (i := 203) rfl
theorem wd_204 : (Jvm.Cond.instanceMethod ({ cls := "com/example/likeness/likeness/property/PropertyWriter", name := "member", desc := "()Ljava/lang/invoke/MethodHandle;" } : Jvm.MethodName)) ∈ tables_1 := List.mem_of_getElem? (i := 204) rfl
theorem wd_205 : (Jvm.Cond.selects "com/example/likeness/likeness/property/PropertyWriter" ({ cls := "com/example/likeness/likeness/property/PropertyWriter", name := "member", desc := "()Ljava/lang/invoke/MethodHandle;" } : Jvm.MethodName) ({ cls := "com/example/likeness/likeness/property/PropertyWriter", name := "member", desc := "()Ljava/lang/invoke/MethodHandle;" } : Jvm.MethodName)) ∈ tables_1 := List.mem_of_getElem? (i := 205) rfl
theorem wd_206 : (Jvm.Cond.code ({ cls := "com/example/likeness/likeness/property/PropertyWriter", name := "member", desc := "()Ljava/lang/invoke/MethodHandle;" } : Jvm.MethodName) prog_52_method_9_code (1 : Nat) (Option.some (Jvm.ClassFile.FieldType.object "java/lang/invoke/MethodHandle"))) ∈ tables_1 := List.mem_of_getElem? (i := 206) rfl
theorem wd_207 : (Jvm.Cond.methodLink "com/example/likeness/likeness/property/ElementsEntryWriterPinLaw" (44 : Nat) ({ cls := "com/example/likeness/likeness/property/PropertyWriter", name := "handle", desc := "()Ljava/lang/invoke/MethodHandle;" } : Jvm.MethodName)) ∈ tables_1 := List.mem_of_getElem? (i := 207) rfl
theorem wd_208 : (Jvm.Cond.declares ({ cls := "com/example/likeness/likeness/property/PropertyWriter", name := "handle", desc := "()Ljava/lang/invoke/MethodHandle;" } : Jvm.MethodName)) ∈ tables_1 := List.mem_of_getElem? (i := 208) rfl
theorem wd_209 : (Jvm.Cond.instanceMethod ({ cls := "com/example/likeness/likeness/property/PropertyWriter", name := "handle", desc := "()Ljava/lang/invoke/MethodHandle;" } : Jvm.MethodName)) ∈ tables_1 := List.mem_of_getElem? (i := 209) rfl
theorem wd_210 : (Jvm.Cond.selects "com/example/likeness/likeness/property/PropertyWriter" ({ cls := "com/example/likeness/likeness/property/PropertyWriter", name := "handle", desc := "()Ljava/lang/invoke/MethodHandle;" } : Jvm.MethodName) ({ cls := "com/example/likeness/likeness/property/PropertyWriter", name := "handle", desc := "()Ljava/lang/invoke/MethodHandle;" } : Jvm.MethodName)) ∈ tables_1 := List.mem_of_getElem? (i := 210) rfl
theorem wd_211 : (Jvm.Cond.code ({ cls := "com/example/likeness/likeness/property/PropertyWriter", name := "handle", desc := "()Ljava/lang/invoke/MethodHandle;" } : Jvm.MethodName) prog_52_method_10_code (1 : Nat) (Option.some (Jvm.ClassFile.FieldType.object "java/lang/invoke/MethodHandle"))) ∈ tables_1 := List.mem_of_getElem? (i := 211) rfl
theorem wd_212 : (Jvm.Cond.methodLink "com/example/likeness/likeness/property/ElementsEntryWriterPinLaw" (47 : Nat) ({ cls := "com/example/likeness/likeness/property/PropertyWriter", name := "toString", desc := "()Ljava/lang/String;" } : Jvm.MethodName)) ∈ tables_1 := List.mem_of_getElem? (i := 212) rfl
theorem wd_213 : (Jvm.Cond.declares ({ cls := "com/example/likeness/likeness/property/PropertyWriter", name := "toString", desc := "()Ljava/lang/String;" } : Jvm.MethodName)) ∈ tables_1 := List.mem_of_getElem? (i := 213) rfl
theorem wd_214 : (Jvm.Cond.instanceMethod ({ cls := "com/example/likeness/likeness/property/PropertyWriter", name := "toString", desc := "()Ljava/lang/String;" } : Jvm.MethodName)) ∈ tables_1 := List.mem_of_getElem? (i := 214) rfl
theorem wd_215 : (Jvm.Cond.selects "com/example/likeness/likeness/property/PropertyWriter" ({ cls := "com/example/likeness/likeness/property/PropertyWriter", name := "toString", desc := "()Ljava/lang/String;" } : Jvm.MethodName) ({ cls := "com/example/likeness/likeness/property/PropertyWriter", name := "toString", desc := "()Ljava/lang/String;" } : Jvm.MethodName)) ∈ tables_1 := List.mem_of_getElem? (i := 215) rfl
theorem wd_216 : (Jvm.Cond.code ({ cls := "com/example/likeness/likeness/property/PropertyWriter", name := "toString", desc := "()Ljava/lang/String;" } : Jvm.MethodName) prog_52_method_11_code (1 : Nat) (Option.some (Jvm.ClassFile.FieldType.object "java/lang/String"))) ∈ tables_1 := List.mem_of_getElem? (i := 216) rfl
theorem wd_217 : (Jvm.Cond.methodLink "com/example/likeness/likeness/property/ElementsEntryWriterPinLaw" (50 : Nat) ({ cls := "com/example/likeness/likeness/property/ElementsEntryWriterPinLaw", name := "describes", desc := "(Ljava/lang/String;ICCC)Z" } : Jvm.MethodName)) ∈ tables_1 := List.mem_of_getElem? (i := 217) rfl
theorem wd_218 : (Jvm.Cond.static ({ cls := "com/example/likeness/likeness/property/ElementsEntryWriterPinLaw", name := "describes", desc := "(Ljava/lang/String;ICCC)Z" } : Jvm.MethodName)) ∈ tables_1 := List.mem_of_getElem? (i := 218) rfl
theorem wd_219 : (Jvm.Cond.initialized "com/example/likeness/likeness/property/ElementsEntryWriterPinLaw") ∈ tables_1 := List.mem_of_getElem? (i := 219) rfl
theorem wd_220 : (Jvm.Cond.code ({ cls := "com/example/likeness/likeness/property/ElementsEntryWriterPinLaw", name := "describes", desc := "(Ljava/lang/String;ICCC)Z" } : Jvm.MethodName) method_3_code (7 : Nat) (Option.some Jvm.ClassFile.FieldType.boolean)) ∈ tables_1 := List.mem_of_getElem? (i := 220) rfl
theorem wd_221 : (Jvm.Cond.methodLink "com/example/likeness/likeness/property/ElementsEntryWriterPinLaw" (56 : Nat) ({ cls := "java/lang/String", name := "length", desc := "()I" } : Jvm.MethodName)) ∈ tables_1 := List.mem_of_getElem? (i := 221) rfl
theorem wd_222 : (Jvm.Cond.methodLink "com/example/likeness/likeness/property/ElementsEntryWriterPinLaw" (60 : Nat) ({ cls := "java/lang/String", name := "charAt", desc := "(I)C" } : Jvm.MethodName)) ∈ tables_1 := List.mem_of_getElem? (i := 222) rfl
theorem wd_223 : (Jvm.Cond.declares ({ cls := "java/lang/String", name := "charAt", desc := "(I)C" } : Jvm.MethodName)) ∈ tables_1 := List.mem_of_getElem? (i := 223) rfl
theorem wd_224 : (Jvm.Cond.instanceMethod ({ cls := "java/lang/String", name := "charAt", desc := "(I)C" } : Jvm.MethodName)) ∈ tables_1 := List.mem_of_getElem? (i := 224) rfl
theorem wd_225 : (Jvm.Cond.selects "java/lang/String" ({ cls := "java/lang/String", name := "charAt", desc := "(I)C" } : Jvm.MethodName) ({ cls := "java/lang/String", name := "charAt", desc := "(I)C" } : Jvm.MethodName)) ∈ tables_1 := List.mem_of_getElem? (i := 225) rfl
theorem wd_234 : (Jvm.Cond.initialized "java/lang/StringLatin1") ∈ tables_1 := List.mem_of_getElem? (i := 234) rfl
theorem wd_244 : (Jvm.Cond.methodLink "com/example/likeness/likeness/property/ElementsEntryWriterPinLaw" (12 : Nat) ({ cls := "java/lang/String", name := "valueOf", desc := "(C)Ljava/lang/String;" } : Jvm.MethodName)) ∈ tables_1 := List.mem_of_getElem? (i := 244) rfl
theorem wd_245 : (Jvm.Cond.static ({ cls := "java/lang/String", name := "valueOf", desc := "(C)Ljava/lang/String;" } : Jvm.MethodName)) ∈ tables_1 := List.mem_of_getElem? (i := 245) rfl
theorem wd_246 : (Jvm.Cond.code ({ cls := "java/lang/String", name := "valueOf", desc := "(C)Ljava/lang/String;" } : Jvm.MethodName) jdk_42_method_139_code (1 : Nat) (Option.some (Jvm.ClassFile.FieldType.object "java/lang/String"))) ∈ tables_1 := List.mem_of_getElem? (i := 246) rfl
theorem wd_247 : (Jvm.Cond.methodLink "java/lang/String" (1015 : Nat) ({ cls := "java/lang/StringLatin1", name := "canEncode", desc := "(C)Z" } : Jvm.MethodName)) ∈ tables_1 := List.mem_of_getElem? (i := 247) rfl
theorem wd_248 : (Jvm.Cond.static ({ cls := "java/lang/StringLatin1", name := "canEncode", desc := "(C)Z" } : Jvm.MethodName)) ∈ tables_1 := List.mem_of_getElem? (i := 248) rfl
theorem wd_249 : (Jvm.Cond.code ({ cls := "java/lang/StringLatin1", name := "canEncode", desc := "(C)Z" } : Jvm.MethodName) jdk_43_method_3_code (1 : Nat) (Option.some Jvm.ClassFile.FieldType.boolean)) ∈ tables_1 := List.mem_of_getElem? (i := 249) rfl
theorem wd_250 : (Jvm.Cond.classLink "java/lang/String" (10 : Nat) "java/lang/String") ∈ tables_1 := List.mem_of_getElem? (i := 250) rfl
theorem wd_251 : (Jvm.Cond.methodLink "java/lang/String" (1018 : Nat) ({ cls := "java/lang/StringLatin1", name := "toBytes", desc := "(C)[B" } : Jvm.MethodName)) ∈ tables_1 := List.mem_of_getElem? (i := 251) rfl
theorem wd_252 : (Jvm.Cond.static ({ cls := "java/lang/StringLatin1", name := "toBytes", desc := "(C)[B" } : Jvm.MethodName)) ∈ tables_1 := List.mem_of_getElem? (i := 252) rfl
theorem wd_253 : (Jvm.Cond.code ({ cls := "java/lang/StringLatin1", name := "toBytes", desc := "(C)[B" } : Jvm.MethodName) jdk_43_method_46_code (1 : Nat) (Option.some (Jvm.ClassFile.FieldType.array Jvm.ClassFile.FieldType.byte))) ∈ tables_1 := List.mem_of_getElem? (i := 253) rfl
theorem wd_254 : (Jvm.Cond.methodLink "java/lang/String" (209 : Nat) ({ cls := "java/lang/String", name := "<init>", desc := "([BB)V" } : Jvm.MethodName)) ∈ tables_1 := List.mem_of_getElem? (i := 254) rfl
theorem wd_255 : (Jvm.Cond.instanceMethod ({ cls := "java/lang/String", name := "<init>", desc := "([BB)V" } : Jvm.MethodName)) ∈ tables_1 := List.mem_of_getElem? (i := 255) rfl
theorem wd_256 : (Jvm.Cond.code ({ cls := "java/lang/String", name := "<init>", desc := "([BB)V" } : Jvm.MethodName) jdk_42_method_151_code (3 : Nat) (Option.none : Option Jvm.ClassFile.FieldType)) ∈ tables_1 := List.mem_of_getElem? (i := 256) rfl
theorem wd_257 : (Jvm.Cond.stringLink "java/lang/String" (7 : Nat) "") ∈ tables_1 := List.mem_of_getElem? (i := 257) rfl
theorem pd0 : parseMethodDescriptor "()B" = some ⟨[], some .byte⟩ := by decide +kernel
theorem pd1 : parseMethodDescriptor "(Ljava/lang/String;)V" = some ⟨[(.object "java/lang/String")], none⟩ := by decide +kernel
theorem pd2 : parseMethodDescriptor "([BIB)V" = some ⟨[(.array .byte), .int, .byte], none⟩ := by decide +kernel
theorem pd3 : parseMethodDescriptor "(I)V" = some ⟨[.int], none⟩ := by decide +kernel
theorem pd4 : parseMethodDescriptor "(ILjava/lang/String;)V" = some ⟨[.int, (.object "java/lang/String")], none⟩ := by decide +kernel
theorem pd5 : parseMethodDescriptor "(Ljava/lang/String;)Ljava/lang/AbstractStringBuilder;" = some ⟨[(.object "java/lang/String")], some (.object "java/lang/AbstractStringBuilder")⟩ := by decide +kernel
theorem pd6 : parseMethodDescriptor "()I" = some ⟨[], some .int⟩ := by decide +kernel
theorem pd7 : parseMethodDescriptor "(II)V" = some ⟨[.int, .int], none⟩ := by decide +kernel
theorem pd8 : parseMethodDescriptor "(II)I" = some ⟨[.int, .int], some .int⟩ := by decide +kernel
theorem pd9 : parseMethodDescriptor "([BII)[B" = some ⟨[(.array .byte), .int, .int], some (.array .byte)⟩ := by decide +kernel
theorem pd10 : parseMethodDescriptor "()[B" = some ⟨[], some (.array .byte)⟩ := by decide +kernel
theorem pd11 : parseMethodDescriptor "()Z" = some ⟨[], some .boolean⟩ := by decide +kernel
theorem pd12 : parseMethodDescriptor "(Ljava/lang/AbstractStringBuilder;Ljava/lang/Void;)V" = some ⟨[(.object "java/lang/AbstractStringBuilder"), (.object "java/lang/Void")], none⟩ := by decide +kernel
theorem pd13 : parseMethodDescriptor "(Ljava/lang/StringBuilder;)V" = some ⟨[(.object "java/lang/StringBuilder")], none⟩ := by decide +kernel
theorem pd14 : parseMethodDescriptor "([CIILjava/lang/Void;)V" = some ⟨[(.array .char), .int, .int, (.object "java/lang/Void")], none⟩ := by decide +kernel
theorem pd15 : parseMethodDescriptor "(C)Z" = some ⟨[.char], some .boolean⟩ := by decide +kernel
theorem pd16 : parseMethodDescriptor "(C)[B" = some ⟨[.char], some (.array .byte)⟩ := by decide +kernel
theorem pd17 : parseMethodDescriptor "([BB)V" = some ⟨[(.array .byte), .byte], none⟩ := by decide +kernel
theorem pd18 : parseMethodDescriptor "(Ljava/lang/String;Ljava/lang/reflect/Type;Ljava/lang/String;Lcom/example/likeness/likeness/property/PropertyWriter$Access;ZLjava/lang/invoke/MethodHandle;Ljava/lang/invoke/MethodHandle;)V" = some ⟨[(.object "java/lang/String"), (.object "java/lang/reflect/Type"), (.object "java/lang/String"), (.object "com/example/likeness/likeness/property/PropertyWriter$Access"), .boolean, (.object "java/lang/invoke/MethodHandle"), (.object "java/lang/invoke/MethodHandle")], none⟩ := by decide +kernel
theorem pd19 : parseMethodDescriptor "(Ljava/lang/String;Ljava/lang/reflect/Type;Ljava/lang/String;Lcom/example/likeness/likeness/property/PropertyWriter$Access;Z)V" = some ⟨[(.object "java/lang/String"), (.object "java/lang/reflect/Type"), (.object "java/lang/String"), (.object "com/example/likeness/likeness/property/PropertyWriter$Access"), .boolean], none⟩ := by decide +kernel
theorem pd20 : parseMethodDescriptor "()V" = some ⟨[], none⟩ := by decide +kernel
theorem pd21 : parseMethodDescriptor "(Ljava/lang/String;)Ljava/lang/StringBuilder;" = some ⟨[(.object "java/lang/String")], some (.object "java/lang/StringBuilder")⟩ := by decide +kernel
theorem pd22 : parseMethodDescriptor "()Ljava/lang/String;" = some ⟨[], some (.object "java/lang/String")⟩ := by decide +kernel
theorem pd23 : parseMethodDescriptor "(Ljava/lang/String;Ljava/lang/reflect/Type;Ljava/lang/String;Lcom/example/likeness/likeness/property/PropertyWriter$Access;)V" = some ⟨[(.object "java/lang/String"), (.object "java/lang/reflect/Type"), (.object "java/lang/String"), (.object "com/example/likeness/likeness/property/PropertyWriter$Access")], none⟩ := by decide +kernel
theorem pd24 : parseMethodDescriptor "([C)V" = some ⟨[(.array .char)], none⟩ := by decide +kernel
theorem pd25 : parseMethodDescriptor "(Ljava/lang/String;)Lcom/example/likeness/likeness/property/PropertyWriter;" = some ⟨[(.object "java/lang/String")], some (.object "com/example/likeness/likeness/property/PropertyWriter")⟩ := by decide +kernel
theorem pd26 : parseMethodDescriptor "(Ljava/lang/Object;)Z" = some ⟨[(.object "java/lang/Object")], some .boolean⟩ := by decide +kernel
theorem pd27 : parseMethodDescriptor "()Ljava/lang/reflect/Type;" = some ⟨[], some (.object "java/lang/reflect/Type")⟩ := by decide +kernel
theorem pd28 : parseMethodDescriptor "()Ljava/lang/invoke/MethodHandle;" = some ⟨[], some (.object "java/lang/invoke/MethodHandle")⟩ := by decide +kernel
theorem pd29 : parseMethodDescriptor "(Ljava/lang/String;ICCC)Z" = some ⟨[(.object "java/lang/String"), .int, .char, .char, .char], some .boolean⟩ := by decide +kernel
theorem pd30 : parseMethodDescriptor "(C)Ljava/lang/String;" = some ⟨[.char], some (.object "java/lang/String")⟩ := by decide +kernel
theorem pd31 : parseMethodDescriptor "(I)C" = some ⟨[.int], some .char⟩ := by decide +kernel
theorem pn0 : plainFor (⟨"java/lang/String", "coder", "()B"⟩ : MethodName) = true := by first | exact plainFor_of_name (by first | (simp [plainName, overriddenIn]; done) | decide +kernel) | decide +kernel
theorem pn1 : plainFor (⟨"java/lang/AbstractStringBuilder", "inflateIfNeededFor", "(Ljava/lang/String;)V"⟩ : MethodName) = true := by first | exact plainFor_of_name (by first | (simp [plainName, overriddenIn]; done) | decide +kernel) | decide +kernel
theorem pn2 : plainFor (⟨"java/lang/AbstractStringBuilder", "ensureCapacityInternal", "(I)V"⟩ : MethodName) = true := by first | exact plainFor_of_name (by first | (simp [plainName, overriddenIn]; done) | decide +kernel) | decide +kernel
theorem pn3 : plainFor (⟨"java/lang/String", "getBytes", "([BIB)V"⟩ : MethodName) = true := by first | exact plainFor_of_name (by first | (simp [plainName, overriddenIn]; done) | decide +kernel) | decide +kernel
theorem pn4 : plainFor (⟨"java/lang/AbstractStringBuilder", "putStringAt", "(ILjava/lang/String;)V"⟩ : MethodName) = true := by first | exact plainFor_of_name (by first | (simp [plainName, overriddenIn]; done) | decide +kernel) | decide +kernel
theorem pn5 : plainFor (⟨"java/lang/AbstractStringBuilder", "append", "(Ljava/lang/String;)Ljava/lang/AbstractStringBuilder;"⟩ : MethodName) = true := by first | exact plainFor_of_name (by first | (simp [plainName, overriddenIn]; done) | decide +kernel) | decide +kernel
theorem pn6 : plainFor (⟨"java/lang/StringBuilder", "append", "(Ljava/lang/String;)Ljava/lang/StringBuilder;"⟩ : MethodName) = true := by first | exact plainFor_of_name (by first | (simp [plainName, overriddenIn]; done) | decide +kernel) | decide +kernel
theorem pn7 : plainFor (⟨"java/lang/AbstractStringBuilder", "<init>", "(I)V"⟩ : MethodName) = true := by first | exact plainFor_of_name (by first | (simp [plainName, overriddenIn]; done) | decide +kernel) | decide +kernel
theorem pn8 : plainFor (⟨"java/lang/StringBuilder", "<init>", "()V"⟩ : MethodName) = true := by first | exact plainFor_of_name (by first | (simp [plainName, overriddenIn]; done) | decide +kernel) | decide +kernel
theorem pn9 : plainFor (⟨"java/lang/AbstractStringBuilder", "getValue", "()[B"⟩ : MethodName) = true := by first | exact plainFor_of_name (by first | (simp [plainName, overriddenIn]; done) | decide +kernel) | decide +kernel
theorem pn10 : plainFor (⟨"java/lang/AbstractStringBuilder", "length", "()I"⟩ : MethodName) = true := by first | exact plainFor_of_name (by first | (simp [plainName, overriddenIn]; done) | decide +kernel) | decide +kernel
theorem pn11 : plainFor (⟨"java/lang/StringBuilder", "length", "()I"⟩ : MethodName) = true := by first | exact plainFor_of_name (by first | (simp [plainName, overriddenIn]; done) | decide +kernel) | decide +kernel
theorem pn12 : plainFor (⟨"java/lang/AbstractStringBuilder", "isLatin1", "()Z"⟩ : MethodName) = true := by first | exact plainFor_of_name (by first | (simp [plainName, overriddenIn]; done) | decide +kernel) | decide +kernel
theorem pn13 : plainFor (⟨"java/lang/Math", "min", "(II)I"⟩ : MethodName) = true := by first | exact plainFor_of_name (by first | (simp [plainName, overriddenIn]; done) | decide +kernel) | decide +kernel
theorem pn14 : plainFor (⟨"java/util/Arrays", "checkLength", "(II)V"⟩ : MethodName) = true := by first | exact plainFor_of_name (by first | (simp [plainName, overriddenIn]; done) | decide +kernel) | decide +kernel
theorem pn15 : plainFor (⟨"java/util/Arrays", "copyOfRangeByte", "([BII)[B"⟩ : MethodName) = true := by first | exact plainFor_of_name (by first | (simp [plainName, overriddenIn]; done) | decide +kernel) | decide +kernel
theorem pn16 : plainFor (⟨"java/util/Arrays", "copyOfRange", "([BII)[B"⟩ : MethodName) = true := by first | exact plainFor_of_name (by first | (simp [plainName, overriddenIn]; done) | decide +kernel) | decide +kernel
theorem pn17 : plainFor (⟨"java/lang/String", "<init>", "(Ljava/lang/AbstractStringBuilder;Ljava/lang/Void;)V"⟩ : MethodName) = true := by first | exact plainFor_of_name (by first | (simp [plainName, overriddenIn]; done) | decide +kernel) | decide +kernel
theorem pn18 : plainFor (⟨"java/lang/String", "<init>", "(Ljava/lang/StringBuilder;)V"⟩ : MethodName) = true := by first | exact plainFor_of_name (by first | (simp [plainName, overriddenIn]; done) | decide +kernel) | decide +kernel
theorem pn19 : plainFor (⟨"java/lang/StringBuilder", "toString", "()Ljava/lang/String;"⟩ : MethodName) = true := by first | exact plainFor_of_name (by first | (simp [plainName, overriddenIn]; done) | decide +kernel) | decide +kernel
theorem pn20 : plainFor (⟨"java/lang/String", "<init>", "([CIILjava/lang/Void;)V"⟩ : MethodName) = true := by first | exact plainFor_of_name (by first | (simp [plainName, overriddenIn]; done) | decide +kernel) | decide +kernel
theorem pn21 : plainFor (⟨"java/lang/String", "<init>", "([C)V"⟩ : MethodName) = true := by first | exact plainFor_of_name (by first | (simp [plainName, overriddenIn]; done) | decide +kernel) | decide +kernel
theorem pn22 : plainFor (⟨"java/lang/StringLatin1", "canEncode", "(C)Z"⟩ : MethodName) = true := by first | exact plainFor_of_name (by first | (simp [plainName, overriddenIn]; done) | decide +kernel) | decide +kernel
theorem pn23 : plainFor (⟨"java/lang/StringLatin1", "toBytes", "(C)[B"⟩ : MethodName) = true := by first | exact plainFor_of_name (by first | (simp [plainName, overriddenIn]; done) | decide +kernel) | decide +kernel
theorem pn24 : plainFor (⟨"java/lang/String", "<init>", "([BB)V"⟩ : MethodName) = true := by first | exact plainFor_of_name (by first | (simp [plainName, overriddenIn]; done) | decide +kernel) | decide +kernel
theorem pn25 : plainFor (⟨"java/lang/String", "valueOf", "(C)Ljava/lang/String;"⟩ : MethodName) = true := by first | exact plainFor_of_name (by first | (simp [plainName, overriddenIn]; done) | decide +kernel) | decide +kernel
theorem pn26 : plainFor (⟨"com/example/likeness/likeness/property/PropertyWriter", "<init>", "(Ljava/lang/String;Ljava/lang/reflect/Type;Ljava/lang/String;Lcom/example/likeness/likeness/property/PropertyWriter$Access;ZLjava/lang/invoke/MethodHandle;Ljava/lang/invoke/MethodHandle;)V"⟩ : MethodName) = true := by first | exact plainFor_of_name (by first | (simp [plainName, overriddenIn]; done) | decide +kernel) | decide +kernel
theorem pn27 : plainFor (⟨"com/example/likeness/likeness/property/PropertyWriter", "<init>", "(Ljava/lang/String;Ljava/lang/reflect/Type;Ljava/lang/String;Lcom/example/likeness/likeness/property/PropertyWriter$Access;Z)V"⟩ : MethodName) = true := by first | exact plainFor_of_name (by first | (simp [plainName, overriddenIn]; done) | decide +kernel) | decide +kernel
theorem pn28 : plainFor (⟨"com/example/likeness/likeness/property/PropertyWriter", "<init>", "(Ljava/lang/String;Ljava/lang/reflect/Type;Ljava/lang/String;Lcom/example/likeness/likeness/property/PropertyWriter$Access;)V"⟩ : MethodName) = true := by first | exact plainFor_of_name (by first | (simp [plainName, overriddenIn]; done) | decide +kernel) | decide +kernel
theorem pn29 : plainFor (⟨"com/example/likeness/likeness/property/PropertyWriter", "name", "()Ljava/lang/String;"⟩ : MethodName) = true := by first | exact plainFor_of_name (by first | (simp [plainName, overriddenIn]; done) | decide +kernel) | decide +kernel
theorem pn30 : plainFor (⟨"com/example/likeness/likeness/property/PropertyWriter", "type", "()Ljava/lang/reflect/Type;"⟩ : MethodName) = true := by first | exact plainFor_of_name (by first | (simp [plainName, overriddenIn]; done) | decide +kernel) | decide +kernel
theorem pn31 : plainFor (⟨"com/example/likeness/likeness/property/PropertyWriter", "fillsHeld", "()Z"⟩ : MethodName) = true := by first | exact plainFor_of_name (by first | (simp [plainName, overriddenIn]; done) | decide +kernel) | decide +kernel
theorem pn32 : plainFor (⟨"com/example/likeness/likeness/property/PropertyWriter", "member", "()Ljava/lang/invoke/MethodHandle;"⟩ : MethodName) = true := by first | exact plainFor_of_name (by first | (simp [plainName, overriddenIn]; done) | decide +kernel) | decide +kernel
theorem pn33 : plainFor (⟨"com/example/likeness/likeness/property/PropertyWriter", "handle", "()Ljava/lang/invoke/MethodHandle;"⟩ : MethodName) = true := by first | exact plainFor_of_name (by first | (simp [plainName, overriddenIn]; done) | decide +kernel) | decide +kernel
theorem pn34 : plainFor (⟨"com/example/likeness/likeness/property/PropertyWriter", "toString", "()Ljava/lang/String;"⟩ : MethodName) = true := by first | exact plainFor_of_name (by first | (simp [plainName, overriddenIn]; done) | decide +kernel) | decide +kernel
theorem pn35 : plainFor (⟨"com/example/likeness/likeness/property/Elements", "entryWriter", "(Ljava/lang/String;)Lcom/example/likeness/likeness/property/PropertyWriter;"⟩ : MethodName) = true := by first | exact plainFor_of_name (by first | (simp [plainName, overriddenIn]; done) | decide +kernel) | decide +kernel
theorem pn36 : plainFor (⟨"java/lang/String", "equals", "(Ljava/lang/Object;)Z"⟩ : MethodName) = true := by first | exact plainFor_of_name (by first | (simp [plainName, overriddenIn]; done) | decide +kernel) | decide +kernel
theorem pn37 : plainFor (⟨"com/example/likeness/likeness/property/ElementsEntryWriterPinLaw", "describes", "(Ljava/lang/String;ICCC)Z"⟩ : MethodName) = true := by first | exact plainFor_of_name (by first | (simp [plainName, overriddenIn]; done) | decide +kernel) | decide +kernel
theorem pn38 : plainFor (⟨"com/example/likeness/likeness/property/ElementsEntryWriterPinLaw", "law", "(II)Z"⟩ : MethodName) = true := by first | exact plainFor_of_name (by first | (simp [plainName, overriddenIn]; done) | decide +kernel) | decide +kernel
theorem i0_0 : Jvm.Own.Ins jdk_42_method_152_code 0 (.getstatic 38) 3 3 := ⟨by decide +kernel, rfl⟩
theorem i0_3 : Jvm.Own.Ins jdk_42_method_152_code 3 (.ifCond .eq 10) 3 6 := ⟨by decide +kernel, rfl⟩
theorem i0_6 : Jvm.Own.Ins jdk_42_method_152_code 6 (.aload_n 0) 1 7 := ⟨by decide +kernel, rfl⟩
theorem i0_7 : Jvm.Own.Ins jdk_42_method_152_code 7 (.getfield 15) 3 10 := ⟨by decide +kernel, rfl⟩
theorem i0_10 : Jvm.Own.Ins jdk_42_method_152_code 10 (.goto 4) 3 13 := ⟨by decide +kernel, rfl⟩
theorem i0_14 : Jvm.Own.Ins jdk_42_method_152_code 14 (.ireturn) 1 15 := ⟨by decide +kernel, rfl⟩
theorem i1_0 : Jvm.Own.Ins jdk_68_method_71_code 0 (.getstatic 18) 3 3 := ⟨by decide +kernel, rfl⟩
theorem i1_3 : Jvm.Own.Ins jdk_68_method_71_code 3 (.ifCond .eq 18) 3 6 := ⟨by decide +kernel, rfl⟩
theorem i1_6 : Jvm.Own.Ins jdk_68_method_71_code 6 (.aload_n 0) 1 7 := ⟨by decide +kernel, rfl⟩
theorem i1_7 : Jvm.Own.Ins jdk_68_method_71_code 7 (.getfield 22) 3 10 := ⟨by decide +kernel, rfl⟩
theorem i1_10 : Jvm.Own.Ins jdk_68_method_71_code 10 (.aload_n 1) 1 11 := ⟨by decide +kernel, rfl⟩
theorem i1_11 : Jvm.Own.Ins jdk_68_method_71_code 11 (.invokevirtual 40) 3 14 := ⟨by decide +kernel, rfl⟩
theorem i1_14 : Jvm.Own.Ins jdk_68_method_71_code 14 (.if_icmp .eq 7) 3 17 := ⟨by decide +kernel, rfl⟩
theorem i1_21 : Jvm.Own.Ins jdk_68_method_71_code 21 (.return_) 1 22 := ⟨by decide +kernel, rfl⟩
theorem i2_0 : Jvm.Own.Ins jdk_68_method_9_code 0 (.aload_n 0) 1 1 := ⟨by decide +kernel, rfl⟩
theorem i2_1 : Jvm.Own.Ins jdk_68_method_9_code 1 (.getfield 15) 3 4 := ⟨by decide +kernel, rfl⟩
theorem i2_4 : Jvm.Own.Ins jdk_68_method_9_code 4 (.arraylength) 1 5 := ⟨by decide +kernel, rfl⟩
theorem i2_5 : Jvm.Own.Ins jdk_68_method_9_code 5 (.aload_n 0) 1 6 := ⟨by decide +kernel, rfl⟩
theorem i2_6 : Jvm.Own.Ins jdk_68_method_9_code 6 (.getfield 22) 3 9 := ⟨by decide +kernel, rfl⟩
theorem i2_9 : Jvm.Own.Ins jdk_68_method_9_code 9 (.ishr) 1 10 := ⟨by decide +kernel, rfl⟩
theorem i2_10 : Jvm.Own.Ins jdk_68_method_9_code 10 (.istore_n 2) 1 11 := ⟨by decide +kernel, rfl⟩
theorem i2_11 : Jvm.Own.Ins jdk_68_method_9_code 11 (.iload_n 1) 1 12 := ⟨by decide +kernel, rfl⟩
theorem i2_12 : Jvm.Own.Ins jdk_68_method_9_code 12 (.iload_n 2) 1 13 := ⟨by decide +kernel, rfl⟩
theorem i2_13 : Jvm.Own.Ins jdk_68_method_9_code 13 (.isub) 1 14 := ⟨by decide +kernel, rfl⟩
theorem i2_14 : Jvm.Own.Ins jdk_68_method_9_code 14 (.ifCond .le 24) 3 17 := ⟨by decide +kernel, rfl⟩
theorem i2_38 : Jvm.Own.Ins jdk_68_method_9_code 38 (.return_) 1 39 := ⟨by decide +kernel, rfl⟩
theorem i3_0 : Jvm.Own.Ins jdk_42_method_147_code 0 (.aload_n 0) 1 1 := ⟨by decide +kernel, rfl⟩
theorem i3_1 : Jvm.Own.Ins jdk_42_method_147_code 1 (.invokevirtual 335) 3 4 := ⟨by decide +kernel, rfl⟩
theorem i3_4 : Jvm.Own.Ins jdk_42_method_147_code 4 (.iload_n 3) 1 5 := ⟨by decide +kernel, rfl⟩
theorem i3_5 : Jvm.Own.Ins jdk_42_method_147_code 5 (.if_icmp .ne 23) 3 8 := ⟨by decide +kernel, rfl⟩
theorem i3_8 : Jvm.Own.Ins jdk_42_method_147_code 8 (.aload_n 0) 1 9 := ⟨by decide +kernel, rfl⟩
theorem i3_9 : Jvm.Own.Ins jdk_42_method_147_code 9 (.getfield 9) 3 12 := ⟨by decide +kernel, rfl⟩
theorem i3_12 : Jvm.Own.Ins jdk_42_method_147_code 12 (.iconst 0) 1 13 := ⟨by decide +kernel, rfl⟩
theorem i3_13 : Jvm.Own.Ins jdk_42_method_147_code 13 (.aload_n 1) 1 14 := ⟨by decide +kernel, rfl⟩
theorem i3_14 : Jvm.Own.Ins jdk_42_method_147_code 14 (.iload_n 2) 1 15 := ⟨by decide +kernel, rfl⟩
theorem i3_15 : Jvm.Own.Ins jdk_42_method_147_code 15 (.iload_n 3) 1 16 := ⟨by decide +kernel, rfl⟩
theorem i3_16 : Jvm.Own.Ins jdk_42_method_147_code 16 (.ishl) 1 17 := ⟨by decide +kernel, rfl⟩
theorem i3_17 : Jvm.Own.Ins jdk_42_method_147_code 17 (.aload_n 0) 1 18 := ⟨by decide +kernel, rfl⟩
theorem i3_18 : Jvm.Own.Ins jdk_42_method_147_code 18 (.getfield 9) 3 21 := ⟨by decide +kernel, rfl⟩
theorem i3_21 : Jvm.Own.Ins jdk_42_method_147_code 21 (.arraylength) 1 22 := ⟨by decide +kernel, rfl⟩
theorem i3_22 : Jvm.Own.Ins jdk_42_method_147_code 22 (.invokestatic 212) 3 25 := ⟨by decide +kernel, rfl⟩
theorem i3_25 : Jvm.Own.Ins jdk_42_method_147_code 25 (.goto 18) 3 28 := ⟨by decide +kernel, rfl⟩
theorem i3_43 : Jvm.Own.Ins jdk_42_method_147_code 43 (.return_) 1 44 := ⟨by decide +kernel, rfl⟩
theorem i4_0 : Jvm.Own.Ins jdk_68_method_73_code 0 (.aload_n 0) 1 1 := ⟨by decide +kernel, rfl⟩
theorem i4_1 : Jvm.Own.Ins jdk_68_method_73_code 1 (.aload_n 2) 1 2 := ⟨by decide +kernel, rfl⟩
theorem i4_2 : Jvm.Own.Ins jdk_68_method_73_code 2 (.invokevirtual 397) 3 5 := ⟨by decide +kernel, rfl⟩
theorem i4_5 : Jvm.Own.Ins jdk_68_method_73_code 5 (.aload_n 2) 1 6 := ⟨by decide +kernel, rfl⟩
theorem i4_6 : Jvm.Own.Ins jdk_68_method_73_code 6 (.aload_n 0) 1 7 := ⟨by decide +kernel, rfl⟩
theorem i4_7 : Jvm.Own.Ins jdk_68_method_73_code 7 (.getfield 15) 3 10 := ⟨by decide +kernel, rfl⟩
theorem i4_10 : Jvm.Own.Ins jdk_68_method_73_code 10 (.iload_n 1) 1 11 := ⟨by decide +kernel, rfl⟩
theorem i4_11 : Jvm.Own.Ins jdk_68_method_73_code 11 (.aload_n 0) 1 12 := ⟨by decide +kernel, rfl⟩
theorem i4_12 : Jvm.Own.Ins jdk_68_method_73_code 12 (.getfield 22) 3 15 := ⟨by decide +kernel, rfl⟩
theorem i4_15 : Jvm.Own.Ins jdk_68_method_73_code 15 (.invokevirtual 399) 3 18 := ⟨by decide +kernel, rfl⟩
theorem i4_18 : Jvm.Own.Ins jdk_68_method_73_code 18 (.return_) 1 19 := ⟨by decide +kernel, rfl⟩
theorem i5_0 : Jvm.Own.Ins jdk_68_method_22_code 0 (.aload_n 1) 1 1 := ⟨by decide +kernel, rfl⟩
theorem i5_1 : Jvm.Own.Ins jdk_68_method_22_code 1 (.ifnonnull 8) 3 4 := ⟨by decide +kernel, rfl⟩
theorem i5_9 : Jvm.Own.Ins jdk_68_method_22_code 9 (.aload_n 1) 1 10 := ⟨by decide +kernel, rfl⟩
theorem i5_10 : Jvm.Own.Ins jdk_68_method_22_code 10 (.invokevirtual 32) 3 13 := ⟨by decide +kernel, rfl⟩
theorem i5_13 : Jvm.Own.Ins jdk_68_method_22_code 13 (.istore_n 2) 1 14 := ⟨by decide +kernel, rfl⟩
theorem i5_14 : Jvm.Own.Ins jdk_68_method_22_code 14 (.aload_n 0) 1 15 := ⟨by decide +kernel, rfl⟩
theorem i5_15 : Jvm.Own.Ins jdk_68_method_22_code 15 (.aload_n 0) 1 16 := ⟨by decide +kernel, rfl⟩
theorem i5_16 : Jvm.Own.Ins jdk_68_method_22_code 16 (.getfield 79) 3 19 := ⟨by decide +kernel, rfl⟩
theorem i5_19 : Jvm.Own.Ins jdk_68_method_22_code 19 (.iload_n 2) 1 20 := ⟨by decide +kernel, rfl⟩
theorem i5_20 : Jvm.Own.Ins jdk_68_method_22_code 20 (.iadd) 1 21 := ⟨by decide +kernel, rfl⟩
theorem i5_21 : Jvm.Own.Ins jdk_68_method_22_code 21 (.invokevirtual 100) 3 24 := ⟨by decide +kernel, rfl⟩
theorem i5_24 : Jvm.Own.Ins jdk_68_method_22_code 24 (.aload_n 0) 1 25 := ⟨by decide +kernel, rfl⟩
theorem i5_25 : Jvm.Own.Ins jdk_68_method_22_code 25 (.aload_n 0) 1 26 := ⟨by decide +kernel, rfl⟩
theorem i5_26 : Jvm.Own.Ins jdk_68_method_22_code 26 (.getfield 79) 3 29 := ⟨by decide +kernel, rfl⟩
theorem i5_29 : Jvm.Own.Ins jdk_68_method_22_code 29 (.aload_n 1) 1 30 := ⟨by decide +kernel, rfl⟩
theorem i5_30 : Jvm.Own.Ins jdk_68_method_22_code 30 (.invokevirtual 208) 3 33 := ⟨by decide +kernel, rfl⟩
theorem i5_33 : Jvm.Own.Ins jdk_68_method_22_code 33 (.aload_n 0) 1 34 := ⟨by decide +kernel, rfl⟩
theorem i5_34 : Jvm.Own.Ins jdk_68_method_22_code 34 (.dup) 1 35 := ⟨by decide +kernel, rfl⟩
theorem i5_35 : Jvm.Own.Ins jdk_68_method_22_code 35 (.getfield 79) 3 38 := ⟨by decide +kernel, rfl⟩
theorem i5_38 : Jvm.Own.Ins jdk_68_method_22_code 38 (.iload_n 2) 1 39 := ⟨by decide +kernel, rfl⟩
theorem i5_39 : Jvm.Own.Ins jdk_68_method_22_code 39 (.iadd) 1 40 := ⟨by decide +kernel, rfl⟩
theorem i5_40 : Jvm.Own.Ins jdk_68_method_22_code 40 (.putfield 79) 3 43 := ⟨by decide +kernel, rfl⟩
theorem i5_43 : Jvm.Own.Ins jdk_68_method_22_code 43 (.aload_n 0) 1 44 := ⟨by decide +kernel, rfl⟩
theorem i5_44 : Jvm.Own.Ins jdk_68_method_22_code 44 (.areturn) 1 45 := ⟨by decide +kernel, rfl⟩
theorem i6_0 : Jvm.Own.Ins jdk_67_method_7_code 0 (.aload_n 0) 1 1 := ⟨by decide +kernel, rfl⟩
theorem i6_1 : Jvm.Own.Ins jdk_67_method_7_code 1 (.aload_n 1) 1 2 := ⟨by decide +kernel, rfl⟩
theorem i6_2 : Jvm.Own.Ins jdk_67_method_7_code 2 (.invokespecial 29) 3 5 := ⟨by decide +kernel, rfl⟩
theorem i6_5 : Jvm.Own.Ins jdk_67_method_7_code 5 (.pop) 1 6 := ⟨by decide +kernel, rfl⟩
theorem i6_6 : Jvm.Own.Ins jdk_67_method_7_code 6 (.aload_n 0) 1 7 := ⟨by decide +kernel, rfl⟩
theorem i6_7 : Jvm.Own.Ins jdk_67_method_7_code 7 (.areturn) 1 8 := ⟨by decide +kernel, rfl⟩
theorem i7_0 : Jvm.Own.Ins jdk_68_method_2_code 0 (.aload_n 0) 1 1 := ⟨by decide +kernel, rfl⟩
theorem i7_1 : Jvm.Own.Ins jdk_68_method_2_code 1 (.invokespecial 3) 3 4 := ⟨by decide +kernel, rfl⟩
theorem i7_4 : Jvm.Own.Ins jdk_68_method_2_code 4 (.getstatic 18) 3 7 := ⟨by decide +kernel, rfl⟩
theorem i7_7 : Jvm.Own.Ins jdk_68_method_2_code 7 (.ifCond .eq 18) 3 10 := ⟨by decide +kernel, rfl⟩
theorem i7_10 : Jvm.Own.Ins jdk_68_method_2_code 10 (.aload_n 0) 1 11 := ⟨by decide +kernel, rfl⟩
theorem i7_11 : Jvm.Own.Ins jdk_68_method_2_code 11 (.iload_n 1) 1 12 := ⟨by decide +kernel, rfl⟩
theorem i7_12 : Jvm.Own.Ins jdk_68_method_2_code 12 (.newarray .byte) 2 14 := ⟨by decide +kernel, rfl⟩
theorem i7_14 : Jvm.Own.Ins jdk_68_method_2_code 14 (.putfield 15) 3 17 := ⟨by decide +kernel, rfl⟩
theorem i7_17 : Jvm.Own.Ins jdk_68_method_2_code 17 (.aload_n 0) 1 18 := ⟨by decide +kernel, rfl⟩
theorem i7_18 : Jvm.Own.Ins jdk_68_method_2_code 18 (.iconst 0) 1 19 := ⟨by decide +kernel, rfl⟩
theorem i7_19 : Jvm.Own.Ins jdk_68_method_2_code 19 (.putfield 22) 3 22 := ⟨by decide +kernel, rfl⟩
theorem i7_22 : Jvm.Own.Ins jdk_68_method_2_code 22 (.goto 16) 3 25 := ⟨by decide +kernel, rfl⟩
theorem i7_38 : Jvm.Own.Ins jdk_68_method_2_code 38 (.return_) 1 39 := ⟨by decide +kernel, rfl⟩
theorem i8_0 : Jvm.Own.Ins jdk_67_method_1_code 0 (.aload_n 0) 1 1 := ⟨by decide +kernel, rfl⟩
theorem i8_1 : Jvm.Own.Ins jdk_67_method_1_code 1 (.bipush 16) 2 3 := ⟨by decide +kernel, rfl⟩
theorem i8_3 : Jvm.Own.Ins jdk_67_method_1_code 3 (.invokespecial 1) 3 6 := ⟨by decide +kernel, rfl⟩
theorem i8_6 : Jvm.Own.Ins jdk_67_method_1_code 6 (.return_) 1 7 := ⟨by decide +kernel, rfl⟩
theorem i9_0 : Jvm.Own.Ins jdk_68_method_64_code 0 (.aload_n 0) 1 1 := ⟨by decide +kernel, rfl⟩
theorem i9_1 : Jvm.Own.Ins jdk_68_method_64_code 1 (.getfield 15) 3 4 := ⟨by decide +kernel, rfl⟩
theorem i9_4 : Jvm.Own.Ins jdk_68_method_64_code 4 (.areturn) 1 5 := ⟨by decide +kernel, rfl⟩
theorem i10_0 : Jvm.Own.Ins jdk_68_method_6_code 0 (.aload_n 0) 1 1 := ⟨by decide +kernel, rfl⟩
theorem i10_1 : Jvm.Own.Ins jdk_68_method_6_code 1 (.getfield 79) 3 4 := ⟨by decide +kernel, rfl⟩
theorem i10_4 : Jvm.Own.Ins jdk_68_method_6_code 4 (.ireturn) 1 5 := ⟨by decide +kernel, rfl⟩
theorem i11_0 : Jvm.Own.Ins jdk_67_method_93_code 0 (.aload_n 0) 1 1 := ⟨by decide +kernel, rfl⟩
theorem i11_1 : Jvm.Own.Ins jdk_67_method_93_code 1 (.invokespecial 343) 3 4 := ⟨by decide +kernel, rfl⟩
theorem i11_4 : Jvm.Own.Ins jdk_67_method_93_code 4 (.ireturn) 1 5 := ⟨by decide +kernel, rfl⟩
theorem i12_0 : Jvm.Own.Ins jdk_68_method_68_code 0 (.getstatic 18) 3 3 := ⟨by decide +kernel, rfl⟩
theorem i12_3 : Jvm.Own.Ins jdk_68_method_68_code 3 (.ifCond .eq 14) 3 6 := ⟨by decide +kernel, rfl⟩
theorem i12_6 : Jvm.Own.Ins jdk_68_method_68_code 6 (.aload_n 0) 1 7 := ⟨by decide +kernel, rfl⟩
theorem i12_7 : Jvm.Own.Ins jdk_68_method_68_code 7 (.getfield 22) 3 10 := ⟨by decide +kernel, rfl⟩
theorem i12_10 : Jvm.Own.Ins jdk_68_method_68_code 10 (.ifCond .ne 7) 3 13 := ⟨by decide +kernel, rfl⟩
theorem i12_13 : Jvm.Own.Ins jdk_68_method_68_code 13 (.iconst 1) 1 14 := ⟨by decide +kernel, rfl⟩
theorem i12_14 : Jvm.Own.Ins jdk_68_method_68_code 14 (.goto 4) 3 17 := ⟨by decide +kernel, rfl⟩
theorem i12_18 : Jvm.Own.Ins jdk_68_method_68_code 18 (.ireturn) 1 19 := ⟨by decide +kernel, rfl⟩
theorem i13_0 : Jvm.Own.Ins jdk_29_method_69_code 0 (.iload_n 0) 1 1 := ⟨by decide +kernel, rfl⟩
theorem i13_1 : Jvm.Own.Ins jdk_29_method_69_code 1 (.iload_n 1) 1 2 := ⟨by decide +kernel, rfl⟩
theorem i13_2 : Jvm.Own.Ins jdk_29_method_69_code 2 (.if_icmp .gt 7) 3 5 := ⟨by decide +kernel, rfl⟩
theorem i13_5 : Jvm.Own.Ins jdk_29_method_69_code 5 (.iload_n 0) 1 6 := ⟨by decide +kernel, rfl⟩
theorem i13_6 : Jvm.Own.Ins jdk_29_method_69_code 6 (.goto 4) 3 9 := ⟨by decide +kernel, rfl⟩
theorem i13_9 : Jvm.Own.Ins jdk_29_method_69_code 9 (.iload_n 1) 1 10 := ⟨by decide +kernel, rfl⟩
theorem i13_10 : Jvm.Own.Ins jdk_29_method_69_code 10 (.ireturn) 1 11 := ⟨by decide +kernel, rfl⟩
theorem i14_0 : Jvm.Own.Ins jdk_65_method_131_code 0 (.iload_n 1) 1 1 := ⟨by decide +kernel, rfl⟩
theorem i14_1 : Jvm.Own.Ins jdk_65_method_131_code 1 (.iload_n 0) 1 2 := ⟨by decide +kernel, rfl⟩
theorem i14_2 : Jvm.Own.Ins jdk_65_method_131_code 2 (.if_icmp .ge 35) 3 5 := ⟨by decide +kernel, rfl⟩
theorem i14_37 : Jvm.Own.Ins jdk_65_method_131_code 37 (.return_) 1 38 := ⟨by decide +kernel, rfl⟩
theorem i15_0 : Jvm.Own.Ins jdk_65_method_133_code 0 (.iload_n 1) 1 1 := ⟨by decide +kernel, rfl⟩
theorem i15_1 : Jvm.Own.Ins jdk_65_method_133_code 1 (.iload_n 2) 1 2 := ⟨by decide +kernel, rfl⟩
theorem i15_2 : Jvm.Own.Ins jdk_65_method_133_code 2 (.invokestatic 343) 3 5 := ⟨by decide +kernel, rfl⟩
theorem i15_5 : Jvm.Own.Ins jdk_65_method_133_code 5 (.iload_n 2) 1 6 := ⟨by decide +kernel, rfl⟩
theorem i15_6 : Jvm.Own.Ins jdk_65_method_133_code 6 (.iload_n 1) 1 7 := ⟨by decide +kernel, rfl⟩
theorem i15_7 : Jvm.Own.Ins jdk_65_method_133_code 7 (.isub) 1 8 := ⟨by decide +kernel, rfl⟩
theorem i15_8 : Jvm.Own.Ins jdk_65_method_133_code 8 (.istore_n 3) 1 9 := ⟨by decide +kernel, rfl⟩
theorem i15_9 : Jvm.Own.Ins jdk_65_method_133_code 9 (.iload_n 3) 1 10 := ⟨by decide +kernel, rfl⟩
theorem i15_10 : Jvm.Own.Ins jdk_65_method_133_code 10 (.newarray .byte) 2 12 := ⟨by decide +kernel, rfl⟩
theorem i15_12 : Jvm.Own.Ins jdk_65_method_133_code 12 (.astore 4) 2 14 := ⟨by decide +kernel, rfl⟩
theorem i15_14 : Jvm.Own.Ins jdk_65_method_133_code 14 (.aload_n 0) 1 15 := ⟨by decide +kernel, rfl⟩
theorem i15_15 : Jvm.Own.Ins jdk_65_method_133_code 15 (.iload_n 1) 1 16 := ⟨by decide +kernel, rfl⟩
theorem i15_16 : Jvm.Own.Ins jdk_65_method_133_code 16 (.aload 4) 2 18 := ⟨by decide +kernel, rfl⟩
theorem i15_18 : Jvm.Own.Ins jdk_65_method_133_code 18 (.iconst 0) 1 19 := ⟨by decide +kernel, rfl⟩
theorem i15_19 : Jvm.Own.Ins jdk_65_method_133_code 19 (.aload_n 0) 1 20 := ⟨by decide +kernel, rfl⟩
theorem i15_20 : Jvm.Own.Ins jdk_65_method_133_code 20 (.arraylength) 1 21 := ⟨by decide +kernel, rfl⟩
theorem i15_21 : Jvm.Own.Ins jdk_65_method_133_code 21 (.iload_n 1) 1 22 := ⟨by decide +kernel, rfl⟩
theorem i15_22 : Jvm.Own.Ins jdk_65_method_133_code 22 (.isub) 1 23 := ⟨by decide +kernel, rfl⟩
theorem i15_23 : Jvm.Own.Ins jdk_65_method_133_code 23 (.iload_n 3) 1 24 := ⟨by decide +kernel, rfl⟩
theorem i15_24 : Jvm.Own.Ins jdk_65_method_133_code 24 (.invokestatic 304) 3 27 := ⟨by decide +kernel, rfl⟩
theorem i15_27 : Jvm.Own.Ins jdk_65_method_133_code 27 (.invokestatic 150) 3 30 := ⟨by decide +kernel, rfl⟩
theorem i15_30 : Jvm.Own.Ins jdk_65_method_133_code 30 (.aload 4) 2 32 := ⟨by decide +kernel, rfl⟩
theorem i15_32 : Jvm.Own.Ins jdk_65_method_133_code 32 (.areturn) 1 33 := ⟨by decide +kernel, rfl⟩
theorem i16_0 : Jvm.Own.Ins jdk_65_method_132_code 0 (.iload_n 1) 1 1 := ⟨by decide +kernel, rfl⟩
theorem i16_1 : Jvm.Own.Ins jdk_65_method_132_code 1 (.ifCond .ne 9) 3 4 := ⟨by decide +kernel, rfl⟩
theorem i16_4 : Jvm.Own.Ins jdk_65_method_132_code 4 (.iload_n 2) 1 5 := ⟨by decide +kernel, rfl⟩
theorem i16_5 : Jvm.Own.Ins jdk_65_method_132_code 5 (.aload_n 0) 1 6 := ⟨by decide +kernel, rfl⟩
theorem i16_6 : Jvm.Own.Ins jdk_65_method_132_code 6 (.arraylength) 1 7 := ⟨by decide +kernel, rfl⟩
theorem i16_7 : Jvm.Own.Ins jdk_65_method_132_code 7 (.if_icmp .eq 10) 3 10 := ⟨by decide +kernel, rfl⟩
theorem i16_10 : Jvm.Own.Ins jdk_65_method_132_code 10 (.aload_n 0) 1 11 := ⟨by decide +kernel, rfl⟩
theorem i16_11 : Jvm.Own.Ins jdk_65_method_132_code 11 (.iload_n 1) 1 12 := ⟨by decide +kernel, rfl⟩
theorem i16_12 : Jvm.Own.Ins jdk_65_method_132_code 12 (.iload_n 2) 1 13 := ⟨by decide +kernel, rfl⟩
theorem i16_13 : Jvm.Own.Ins jdk_65_method_132_code 13 (.invokestatic 339) 3 16 := ⟨by decide +kernel, rfl⟩
theorem i16_16 : Jvm.Own.Ins jdk_65_method_132_code 16 (.areturn) 1 17 := ⟨by decide +kernel, rfl⟩
theorem i17_0 : Jvm.Own.Ins jdk_42_method_150_code 0 (.aload_n 0) 1 1 := ⟨by decide +kernel, rfl⟩
theorem i17_1 : Jvm.Own.Ins jdk_42_method_150_code 1 (.invokespecial 1) 3 4 := ⟨by decide +kernel, rfl⟩
theorem i17_4 : Jvm.Own.Ins jdk_42_method_150_code 4 (.aload_n 1) 1 5 := ⟨by decide +kernel, rfl⟩
theorem i17_5 : Jvm.Own.Ins jdk_42_method_150_code 5 (.invokevirtual 552) 3 8 := ⟨by decide +kernel, rfl⟩
theorem i17_8 : Jvm.Own.Ins jdk_42_method_150_code 8 (.astore_n 3) 1 9 := ⟨by decide +kernel, rfl⟩
theorem i17_9 : Jvm.Own.Ins jdk_42_method_150_code 9 (.aload_n 1) 1 10 := ⟨by decide +kernel, rfl⟩
theorem i17_10 : Jvm.Own.Ins jdk_42_method_150_code 10 (.invokevirtual 549) 3 13 := ⟨by decide +kernel, rfl⟩
theorem i17_13 : Jvm.Own.Ins jdk_42_method_150_code 13 (.istore 4) 2 15 := ⟨by decide +kernel, rfl⟩
theorem i17_15 : Jvm.Own.Ins jdk_42_method_150_code 15 (.aload_n 1) 1 16 := ⟨by decide +kernel, rfl⟩
theorem i17_16 : Jvm.Own.Ins jdk_42_method_150_code 16 (.invokevirtual 1047) 3 19 := ⟨by decide +kernel, rfl⟩
theorem i17_19 : Jvm.Own.Ins jdk_42_method_150_code 19 (.ifCond .eq 22) 3 22 := ⟨by decide +kernel, rfl⟩
theorem i17_22 : Jvm.Own.Ins jdk_42_method_150_code 22 (.aload_n 0) 1 23 := ⟨by decide +kernel, rfl⟩
theorem i17_23 : Jvm.Own.Ins jdk_42_method_150_code 23 (.iconst 0) 1 24 := ⟨by decide +kernel, rfl⟩
theorem i17_24 : Jvm.Own.Ins jdk_42_method_150_code 24 (.putfield 15) 3 27 := ⟨by decide +kernel, rfl⟩
theorem i17_27 : Jvm.Own.Ins jdk_42_method_150_code 27 (.aload_n 0) 1 28 := ⟨by decide +kernel, rfl⟩
theorem i17_28 : Jvm.Own.Ins jdk_42_method_150_code 28 (.aload_n 3) 1 29 := ⟨by decide +kernel, rfl⟩
theorem i17_29 : Jvm.Own.Ins jdk_42_method_150_code 29 (.iconst 0) 1 30 := ⟨by decide +kernel, rfl⟩
theorem i17_30 : Jvm.Own.Ins jdk_42_method_150_code 30 (.iload 4) 2 32 := ⟨by decide +kernel, rfl⟩
theorem i17_32 : Jvm.Own.Ins jdk_42_method_150_code 32 (.invokestatic 54) 3 35 := ⟨by decide +kernel, rfl⟩
theorem i17_35 : Jvm.Own.Ins jdk_42_method_150_code 35 (.putfield 9) 3 38 := ⟨by decide +kernel, rfl⟩
theorem i17_38 : Jvm.Own.Ins jdk_42_method_150_code 38 (.goto 59) 3 41 := ⟨by decide +kernel, rfl⟩
theorem i17_97 : Jvm.Own.Ins jdk_42_method_150_code 97 (.return_) 1 98 := ⟨by decide +kernel, rfl⟩
theorem i18_0 : Jvm.Own.Ins jdk_42_method_53_code 0 (.aload_n 0) 1 1 := ⟨by decide +kernel, rfl⟩
theorem i18_1 : Jvm.Own.Ins jdk_42_method_53_code 1 (.aload_n 1) 1 2 := ⟨by decide +kernel, rfl⟩
theorem i18_2 : Jvm.Own.Ins jdk_42_method_53_code 2 (.aconst_null) 1 3 := ⟨by decide +kernel, rfl⟩
theorem i18_3 : Jvm.Own.Ins jdk_42_method_53_code 3 (.invokespecial 489) 3 6 := ⟨by decide +kernel, rfl⟩
theorem i18_6 : Jvm.Own.Ins jdk_42_method_53_code 6 (.return_) 1 7 := ⟨by decide +kernel, rfl⟩
theorem i19_0 : Jvm.Own.Ins jdk_67_method_42_code 0 (.new 18) 3 3 := ⟨by decide +kernel, rfl⟩
theorem i19_3 : Jvm.Own.Ins jdk_67_method_42_code 3 (.dup) 1 4 := ⟨by decide +kernel, rfl⟩
theorem i19_4 : Jvm.Own.Ins jdk_67_method_42_code 4 (.aload_n 0) 1 5 := ⟨by decide +kernel, rfl⟩
theorem i19_5 : Jvm.Own.Ins jdk_67_method_42_code 5 (.invokespecial 137) 3 8 := ⟨by decide +kernel, rfl⟩
theorem i19_8 : Jvm.Own.Ins jdk_67_method_42_code 8 (.areturn) 1 9 := ⟨by decide +kernel, rfl⟩
theorem i20_0 : Jvm.Own.Ins jdk_42_method_149_code 0 (.aload_n 0) 1 1 := ⟨by decide +kernel, rfl⟩
theorem i20_1 : Jvm.Own.Ins jdk_42_method_149_code 1 (.invokespecial 1) 3 4 := ⟨by decide +kernel, rfl⟩
theorem i20_4 : Jvm.Own.Ins jdk_42_method_149_code 4 (.iload_n 3) 1 5 := ⟨by decide +kernel, rfl⟩
theorem i20_5 : Jvm.Own.Ins jdk_42_method_149_code 5 (.ifCond .ne 22) 3 8 := ⟨by decide +kernel, rfl⟩
theorem i20_8 : Jvm.Own.Ins jdk_42_method_149_code 8 (.aload_n 0) 1 9 := ⟨by decide +kernel, rfl⟩
theorem i20_9 : Jvm.Own.Ins jdk_42_method_149_code 9 (.ldc 7) 2 11 := ⟨by decide +kernel, rfl⟩
theorem i20_11 : Jvm.Own.Ins jdk_42_method_149_code 11 (.getfield 9) 3 14 := ⟨by decide +kernel, rfl⟩
theorem i20_14 : Jvm.Own.Ins jdk_42_method_149_code 14 (.putfield 9) 3 17 := ⟨by decide +kernel, rfl⟩
theorem i20_17 : Jvm.Own.Ins jdk_42_method_149_code 17 (.aload_n 0) 1 18 := ⟨by decide +kernel, rfl⟩
theorem i20_18 : Jvm.Own.Ins jdk_42_method_149_code 18 (.ldc 7) 2 20 := ⟨by decide +kernel, rfl⟩
theorem i20_20 : Jvm.Own.Ins jdk_42_method_149_code 20 (.getfield 15) 3 23 := ⟨by decide +kernel, rfl⟩
theorem i20_23 : Jvm.Own.Ins jdk_42_method_149_code 23 (.putfield 15) 3 26 := ⟨by decide +kernel, rfl⟩
theorem i20_26 : Jvm.Own.Ins jdk_42_method_149_code 26 (.return_) 1 27 := ⟨by decide +kernel, rfl⟩
theorem i21_0 : Jvm.Own.Ins jdk_42_method_3_code 0 (.aload_n 0) 1 1 := ⟨by decide +kernel, rfl⟩
theorem i21_1 : Jvm.Own.Ins jdk_42_method_3_code 1 (.aload_n 1) 1 2 := ⟨by decide +kernel, rfl⟩
theorem i21_2 : Jvm.Own.Ins jdk_42_method_3_code 2 (.iconst 0) 1 3 := ⟨by decide +kernel, rfl⟩
theorem i21_3 : Jvm.Own.Ins jdk_42_method_3_code 3 (.aload_n 1) 1 4 := ⟨by decide +kernel, rfl⟩
theorem i21_4 : Jvm.Own.Ins jdk_42_method_3_code 4 (.arraylength) 1 5 := ⟨by decide +kernel, rfl⟩
theorem i21_5 : Jvm.Own.Ins jdk_42_method_3_code 5 (.aconst_null) 1 6 := ⟨by decide +kernel, rfl⟩
theorem i21_6 : Jvm.Own.Ins jdk_42_method_3_code 6 (.invokespecial 27) 3 9 := ⟨by decide +kernel, rfl⟩
theorem i21_9 : Jvm.Own.Ins jdk_42_method_3_code 9 (.return_) 1 10 := ⟨by decide +kernel, rfl⟩
theorem i22_0 : Jvm.Own.Ins jdk_43_method_3_code 0 (.iload_n 0) 1 1 := ⟨by decide +kernel, rfl⟩
theorem i22_1 : Jvm.Own.Ins jdk_43_method_3_code 1 (.sipush 255) 3 4 := ⟨by decide +kernel, rfl⟩
theorem i22_4 : Jvm.Own.Ins jdk_43_method_3_code 4 (.if_icmp .gt 7) 3 7 := ⟨by decide +kernel, rfl⟩
theorem i22_7 : Jvm.Own.Ins jdk_43_method_3_code 7 (.iconst 1) 1 8 := ⟨by decide +kernel, rfl⟩
theorem i22_8 : Jvm.Own.Ins jdk_43_method_3_code 8 (.goto 4) 3 11 := ⟨by decide +kernel, rfl⟩
theorem i22_12 : Jvm.Own.Ins jdk_43_method_3_code 12 (.ireturn) 1 13 := ⟨by decide +kernel, rfl⟩
theorem i23_0 : Jvm.Own.Ins jdk_43_method_46_code 0 (.iconst 1) 1 1 := ⟨by decide +kernel, rfl⟩
theorem i23_1 : Jvm.Own.Ins jdk_43_method_46_code 1 (.newarray .byte) 2 3 := ⟨by decide +kernel, rfl⟩
theorem i23_3 : Jvm.Own.Ins jdk_43_method_46_code 3 (.dup) 1 4 := ⟨by decide +kernel, rfl⟩
theorem i23_4 : Jvm.Own.Ins jdk_43_method_46_code 4 (.iconst 0) 1 5 := ⟨by decide +kernel, rfl⟩
theorem i23_5 : Jvm.Own.Ins jdk_43_method_46_code 5 (.iload_n 0) 1 6 := ⟨by decide +kernel, rfl⟩
theorem i23_6 : Jvm.Own.Ins jdk_43_method_46_code 6 (.i2b) 1 7 := ⟨by decide +kernel, rfl⟩
theorem i23_7 : Jvm.Own.Ins jdk_43_method_46_code 7 (.bastore) 1 8 := ⟨by decide +kernel, rfl⟩
theorem i23_8 : Jvm.Own.Ins jdk_43_method_46_code 8 (.areturn) 1 9 := ⟨by decide +kernel, rfl⟩
theorem i24_0 : Jvm.Own.Ins jdk_42_method_151_code 0 (.aload_n 0) 1 1 := ⟨by decide +kernel, rfl⟩
theorem i24_1 : Jvm.Own.Ins jdk_42_method_151_code 1 (.invokespecial 1) 3 4 := ⟨by decide +kernel, rfl⟩
theorem i24_4 : Jvm.Own.Ins jdk_42_method_151_code 4 (.aload_n 0) 1 5 := ⟨by decide +kernel, rfl⟩
theorem i24_5 : Jvm.Own.Ins jdk_42_method_151_code 5 (.aload_n 1) 1 6 := ⟨by decide +kernel, rfl⟩
theorem i24_6 : Jvm.Own.Ins jdk_42_method_151_code 6 (.putfield 9) 3 9 := ⟨by decide +kernel, rfl⟩
theorem i24_9 : Jvm.Own.Ins jdk_42_method_151_code 9 (.aload_n 0) 1 10 := ⟨by decide +kernel, rfl⟩
theorem i24_10 : Jvm.Own.Ins jdk_42_method_151_code 10 (.iload_n 2) 1 11 := ⟨by decide +kernel, rfl⟩
theorem i24_11 : Jvm.Own.Ins jdk_42_method_151_code 11 (.putfield 15) 3 14 := ⟨by decide +kernel, rfl⟩
theorem i24_14 : Jvm.Own.Ins jdk_42_method_151_code 14 (.return_) 1 15 := ⟨by decide +kernel, rfl⟩
theorem i25_0 : Jvm.Own.Ins jdk_42_method_139_code 0 (.getstatic 38) 3 3 := ⟨by decide +kernel, rfl⟩
theorem i25_3 : Jvm.Own.Ins jdk_42_method_139_code 3 (.ifCond .eq 23) 3 6 := ⟨by decide +kernel, rfl⟩
theorem i25_6 : Jvm.Own.Ins jdk_42_method_139_code 6 (.iload_n 0) 1 7 := ⟨by decide +kernel, rfl⟩
theorem i25_7 : Jvm.Own.Ins jdk_42_method_139_code 7 (.invokestatic 1015) 3 10 := ⟨by decide +kernel, rfl⟩
theorem i25_10 : Jvm.Own.Ins jdk_42_method_139_code 10 (.ifCond .eq 16) 3 13 := ⟨by decide +kernel, rfl⟩
theorem i25_13 : Jvm.Own.Ins jdk_42_method_139_code 13 (.new 10) 3 16 := ⟨by decide +kernel, rfl⟩
theorem i25_16 : Jvm.Own.Ins jdk_42_method_139_code 16 (.dup) 1 17 := ⟨by decide +kernel, rfl⟩
theorem i25_17 : Jvm.Own.Ins jdk_42_method_139_code 17 (.iload_n 0) 1 18 := ⟨by decide +kernel, rfl⟩
theorem i25_18 : Jvm.Own.Ins jdk_42_method_139_code 18 (.invokestatic 1018) 3 21 := ⟨by decide +kernel, rfl⟩
theorem i25_21 : Jvm.Own.Ins jdk_42_method_139_code 21 (.iconst 0) 1 22 := ⟨by decide +kernel, rfl⟩
theorem i25_22 : Jvm.Own.Ins jdk_42_method_139_code 22 (.invokespecial 209) 3 25 := ⟨by decide +kernel, rfl⟩
theorem i25_25 : Jvm.Own.Ins jdk_42_method_139_code 25 (.areturn) 1 26 := ⟨by decide +kernel, rfl⟩
theorem i26_0 : Jvm.Own.Ins prog_52_method_3_code 0 (.aload_n 0) 1 1 := ⟨by decide +kernel, rfl⟩
theorem i26_1 : Jvm.Own.Ins prog_52_method_3_code 1 (.invokespecial 10) 3 4 := ⟨by decide +kernel, rfl⟩
theorem i26_4 : Jvm.Own.Ins prog_52_method_3_code 4 (.aload_n 0) 1 5 := ⟨by decide +kernel, rfl⟩
theorem i26_5 : Jvm.Own.Ins prog_52_method_3_code 5 (.aload_n 1) 1 6 := ⟨by decide +kernel, rfl⟩
theorem i26_6 : Jvm.Own.Ins prog_52_method_3_code 6 (.putfield 15) 3 9 := ⟨by decide +kernel, rfl⟩
theorem i26_9 : Jvm.Own.Ins prog_52_method_3_code 9 (.aload_n 0) 1 10 := ⟨by decide +kernel, rfl⟩
theorem i26_10 : Jvm.Own.Ins prog_52_method_3_code 10 (.aload_n 2) 1 11 := ⟨by decide +kernel, rfl⟩
theorem i26_11 : Jvm.Own.Ins prog_52_method_3_code 11 (.putfield 19) 3 14 := ⟨by decide +kernel, rfl⟩
theorem i26_14 : Jvm.Own.Ins prog_52_method_3_code 14 (.aload_n 0) 1 15 := ⟨by decide +kernel, rfl⟩
theorem i26_15 : Jvm.Own.Ins prog_52_method_3_code 15 (.aload_n 3) 1 16 := ⟨by decide +kernel, rfl⟩
theorem i26_16 : Jvm.Own.Ins prog_52_method_3_code 16 (.putfield 23) 3 19 := ⟨by decide +kernel, rfl⟩
theorem i26_19 : Jvm.Own.Ins prog_52_method_3_code 19 (.aload_n 0) 1 20 := ⟨by decide +kernel, rfl⟩
theorem i26_20 : Jvm.Own.Ins prog_52_method_3_code 20 (.aload 4) 2 22 := ⟨by decide +kernel, rfl⟩
theorem i26_22 : Jvm.Own.Ins prog_52_method_3_code 22 (.putfield 26) 3 25 := ⟨by decide +kernel, rfl⟩
theorem i26_25 : Jvm.Own.Ins prog_52_method_3_code 25 (.aload_n 0) 1 26 := ⟨by decide +kernel, rfl⟩
theorem i26_26 : Jvm.Own.Ins prog_52_method_3_code 26 (.iload 5) 2 28 := ⟨by decide +kernel, rfl⟩
theorem i26_28 : Jvm.Own.Ins prog_52_method_3_code 28 (.putfield 30) 3 31 := ⟨by decide +kernel, rfl⟩
theorem i26_31 : Jvm.Own.Ins prog_52_method_3_code 31 (.aload_n 0) 1 32 := ⟨by decide +kernel, rfl⟩
theorem i26_32 : Jvm.Own.Ins prog_52_method_3_code 32 (.aload 6) 2 34 := ⟨by decide +kernel, rfl⟩
theorem i26_34 : Jvm.Own.Ins prog_52_method_3_code 34 (.putfield 34) 3 37 := ⟨by decide +kernel, rfl⟩
theorem i26_37 : Jvm.Own.Ins prog_52_method_3_code 37 (.aload_n 0) 1 38 := ⟨by decide +kernel, rfl⟩
theorem i26_38 : Jvm.Own.Ins prog_52_method_3_code 38 (.aload 7) 2 40 := ⟨by decide +kernel, rfl⟩
theorem i26_40 : Jvm.Own.Ins prog_52_method_3_code 40 (.putfield 38) 3 43 := ⟨by decide +kernel, rfl⟩
theorem i26_43 : Jvm.Own.Ins prog_52_method_3_code 43 (.return_) 1 44 := ⟨by decide +kernel, rfl⟩
theorem i27_0 : Jvm.Own.Ins prog_52_method_2_code 0 (.aload_n 0) 1 1 := ⟨by decide +kernel, rfl⟩
theorem i27_1 : Jvm.Own.Ins prog_52_method_2_code 1 (.aload_n 1) 1 2 := ⟨by decide +kernel, rfl⟩
theorem i27_2 : Jvm.Own.Ins prog_52_method_2_code 2 (.aload_n 2) 1 3 := ⟨by decide +kernel, rfl⟩
theorem i27_3 : Jvm.Own.Ins prog_52_method_2_code 3 (.aload_n 3) 1 4 := ⟨by decide +kernel, rfl⟩
theorem i27_4 : Jvm.Own.Ins prog_52_method_2_code 4 (.aload 4) 2 6 := ⟨by decide +kernel, rfl⟩
theorem i27_6 : Jvm.Own.Ins prog_52_method_2_code 6 (.iload 5) 2 8 := ⟨by decide +kernel, rfl⟩
theorem i27_8 : Jvm.Own.Ins prog_52_method_2_code 8 (.aconst_null) 1 9 := ⟨by decide +kernel, rfl⟩
theorem i27_9 : Jvm.Own.Ins prog_52_method_2_code 9 (.aconst_null) 1 10 := ⟨by decide +kernel, rfl⟩
theorem i27_10 : Jvm.Own.Ins prog_52_method_2_code 10 (.invokespecial 7) 3 13 := ⟨by decide +kernel, rfl⟩
theorem i27_13 : Jvm.Own.Ins prog_52_method_2_code 13 (.return_) 1 14 := ⟨by decide +kernel, rfl⟩
theorem i28_0 : Jvm.Own.Ins prog_52_method_1_code 0 (.aload_n 0) 1 1 := ⟨by decide +kernel, rfl⟩
theorem i28_1 : Jvm.Own.Ins prog_52_method_1_code 1 (.aload_n 1) 1 2 := ⟨by decide +kernel, rfl⟩
theorem i28_2 : Jvm.Own.Ins prog_52_method_1_code 2 (.aload_n 2) 1 3 := ⟨by decide +kernel, rfl⟩
theorem i28_3 : Jvm.Own.Ins prog_52_method_1_code 3 (.aload_n 3) 1 4 := ⟨by decide +kernel, rfl⟩
theorem i28_4 : Jvm.Own.Ins prog_52_method_1_code 4 (.aload 4) 2 6 := ⟨by decide +kernel, rfl⟩
theorem i28_6 : Jvm.Own.Ins prog_52_method_1_code 6 (.iconst 0) 1 7 := ⟨by decide +kernel, rfl⟩
theorem i28_7 : Jvm.Own.Ins prog_52_method_1_code 7 (.invokespecial 1) 3 10 := ⟨by decide +kernel, rfl⟩
theorem i28_10 : Jvm.Own.Ins prog_52_method_1_code 10 (.return_) 1 11 := ⟨by decide +kernel, rfl⟩
theorem i29_0 : Jvm.Own.Ins prog_52_method_5_code 0 (.aload_n 0) 1 1 := ⟨by decide +kernel, rfl⟩
theorem i29_1 : Jvm.Own.Ins prog_52_method_5_code 1 (.getfield 15) 3 4 := ⟨by decide +kernel, rfl⟩
theorem i29_4 : Jvm.Own.Ins prog_52_method_5_code 4 (.areturn) 1 5 := ⟨by decide +kernel, rfl⟩
theorem i30_0 : Jvm.Own.Ins prog_52_method_6_code 0 (.aload_n 0) 1 1 := ⟨by decide +kernel, rfl⟩
theorem i30_1 : Jvm.Own.Ins prog_52_method_6_code 1 (.getfield 19) 3 4 := ⟨by decide +kernel, rfl⟩
theorem i30_4 : Jvm.Own.Ins prog_52_method_6_code 4 (.areturn) 1 5 := ⟨by decide +kernel, rfl⟩
theorem i31_0 : Jvm.Own.Ins prog_52_method_7_code 0 (.aload_n 0) 1 1 := ⟨by decide +kernel, rfl⟩
theorem i31_1 : Jvm.Own.Ins prog_52_method_7_code 1 (.getfield 30) 3 4 := ⟨by decide +kernel, rfl⟩
theorem i31_4 : Jvm.Own.Ins prog_52_method_7_code 4 (.ireturn) 1 5 := ⟨by decide +kernel, rfl⟩
theorem i32_0 : Jvm.Own.Ins prog_52_method_9_code 0 (.aload_n 0) 1 1 := ⟨by decide +kernel, rfl⟩
theorem i32_1 : Jvm.Own.Ins prog_52_method_9_code 1 (.getfield 34) 3 4 := ⟨by decide +kernel, rfl⟩
theorem i32_4 : Jvm.Own.Ins prog_52_method_9_code 4 (.areturn) 1 5 := ⟨by decide +kernel, rfl⟩
theorem i33_0 : Jvm.Own.Ins prog_52_method_10_code 0 (.aload_n 0) 1 1 := ⟨by decide +kernel, rfl⟩
theorem i33_1 : Jvm.Own.Ins prog_52_method_10_code 1 (.getfield 38) 3 4 := ⟨by decide +kernel, rfl⟩
theorem i33_4 : Jvm.Own.Ins prog_52_method_10_code 4 (.areturn) 1 5 := ⟨by decide +kernel, rfl⟩
theorem i34_0 : Jvm.Own.Ins prog_52_method_11_code 0 (.aload_n 0) 1 1 := ⟨by decide +kernel, rfl⟩
theorem i34_1 : Jvm.Own.Ins prog_52_method_11_code 1 (.getfield 23) 3 4 := ⟨by decide +kernel, rfl⟩
theorem i34_4 : Jvm.Own.Ins prog_52_method_11_code 4 (.areturn) 1 5 := ⟨by decide +kernel, rfl⟩
theorem i35_0 : Jvm.Own.Ins prog_46_method_7_code 0 (.new 105) 3 3 := ⟨by decide +kernel, rfl⟩
theorem i35_3 : Jvm.Own.Ins prog_46_method_7_code 3 (.dup) 1 4 := ⟨by decide +kernel, rfl⟩
theorem i35_4 : Jvm.Own.Ins prog_46_method_7_code 4 (.aload_n 0) 1 5 := ⟨by decide +kernel, rfl⟩
theorem i35_5 : Jvm.Own.Ins prog_46_method_7_code 5 (.ldc 2) 2 7 := ⟨by decide +kernel, rfl⟩
theorem i35_7 : Jvm.Own.Ins prog_46_method_7_code 7 (.new 54) 3 10 := ⟨by decide +kernel, rfl⟩
theorem i35_10 : Jvm.Own.Ins prog_46_method_7_code 10 (.dup) 1 11 := ⟨by decide +kernel, rfl⟩
theorem i35_11 : Jvm.Own.Ins prog_46_method_7_code 11 (.invokespecial 56) 3 14 := ⟨by decide +kernel, rfl⟩
theorem i35_14 : Jvm.Own.Ins prog_46_method_7_code 14 (.ldc 107) 2 16 := ⟨by decide +kernel, rfl⟩
theorem i35_16 : Jvm.Own.Ins prog_46_method_7_code 16 (.invokevirtual 59) 3 19 := ⟨by decide +kernel, rfl⟩
theorem i35_19 : Jvm.Own.Ins prog_46_method_7_code 19 (.aload_n 0) 1 20 := ⟨by decide +kernel, rfl⟩
theorem i35_20 : Jvm.Own.Ins prog_46_method_7_code 20 (.invokevirtual 59) 3 23 := ⟨by decide +kernel, rfl⟩
theorem i35_23 : Jvm.Own.Ins prog_46_method_7_code 23 (.ldc 109) 2 25 := ⟨by decide +kernel, rfl⟩
theorem i35_25 : Jvm.Own.Ins prog_46_method_7_code 25 (.invokevirtual 59) 3 28 := ⟨by decide +kernel, rfl⟩
theorem i35_28 : Jvm.Own.Ins prog_46_method_7_code 28 (.invokevirtual 66) 3 31 := ⟨by decide +kernel, rfl⟩
theorem i35_31 : Jvm.Own.Ins prog_46_method_7_code 31 (.aload_n 0) 1 32 := ⟨by decide +kernel, rfl⟩
theorem i35_32 : Jvm.Own.Ins prog_46_method_7_code 32 (.invokedynamic 111) 5 37 := ⟨by decide +kernel, rfl⟩
theorem i35_37 : Jvm.Own.Ins prog_46_method_7_code 37 (.invokespecial 115) 3 40 := ⟨by decide +kernel, rfl⟩
theorem i35_40 : Jvm.Own.Ins prog_46_method_7_code 40 (.areturn) 1 41 := ⟨by decide +kernel, rfl⟩
theorem i36_0 : Jvm.Own.Ins jdk_42_method_66_code 0 (.aload_n 0) 1 1 := ⟨by decide +kernel, rfl⟩
theorem i36_1 : Jvm.Own.Ins jdk_42_method_66_code 1 (.aload_n 1) 1 2 := ⟨by decide +kernel, rfl⟩
theorem i36_2 : Jvm.Own.Ins jdk_42_method_66_code 2 (.if_acmp .ne 5) 3 5 := ⟨by decide +kernel, rfl⟩
theorem i36_5 : Jvm.Own.Ins jdk_42_method_66_code 5 (.iconst 1) 1 6 := ⟨by decide +kernel, rfl⟩
theorem i36_6 : Jvm.Own.Ins jdk_42_method_66_code 6 (.ireturn) 1 7 := ⟨by decide +kernel, rfl⟩
theorem i37_0 : Jvm.Own.Ins method_3_code 0 (.aload_n 0) 1 1 := ⟨by decide +kernel, rfl⟩
theorem i37_1 : Jvm.Own.Ins method_3_code 1 (.invokevirtual 56) 3 4 := ⟨by decide +kernel, rfl⟩
theorem i37_4 : Jvm.Own.Ins method_3_code 4 (.bipush 12) 2 6 := ⟨by decide +kernel, rfl⟩
theorem i37_6 : Jvm.Own.Ins method_3_code 6 (.iload_n 1) 1 7 := ⟨by decide +kernel, rfl⟩
theorem i37_7 : Jvm.Own.Ins method_3_code 7 (.iadd) 1 8 := ⟨by decide +kernel, rfl⟩
theorem i37_8 : Jvm.Own.Ins method_3_code 8 (.if_icmp .eq 5) 3 11 := ⟨by decide +kernel, rfl⟩
theorem i37_13 : Jvm.Own.Ins method_3_code 13 (.aload_n 0) 1 14 := ⟨by decide +kernel, rfl⟩
theorem i37_14 : Jvm.Own.Ins method_3_code 14 (.iconst 0) 1 15 := ⟨by decide +kernel, rfl⟩
theorem i37_15 : Jvm.Own.Ins method_3_code 15 (.invokevirtual 60) 3 18 := ⟨by decide +kernel, rfl⟩
theorem i37_18 : Jvm.Own.Ins method_3_code 18 (.bipush 116) 2 20 := ⟨by decide +kernel, rfl⟩
theorem i37_20 : Jvm.Own.Ins method_3_code 20 (.if_icmp .ne 112) 3 23 := ⟨by decide +kernel, rfl⟩
theorem i37_23 : Jvm.Own.Ins method_3_code 23 (.aload_n 0) 1 24 := ⟨by decide +kernel, rfl⟩
theorem i37_24 : Jvm.Own.Ins method_3_code 24 (.iconst 1) 1 25 := ⟨by decide +kernel, rfl⟩
theorem i37_25 : Jvm.Own.Ins method_3_code 25 (.invokevirtual 60) 3 28 := ⟨by decide +kernel, rfl⟩
theorem i37_28 : Jvm.Own.Ins method_3_code 28 (.bipush 104) 2 30 := ⟨by decide +kernel, rfl⟩
theorem i37_30 : Jvm.Own.Ins method_3_code 30 (.if_icmp .ne 102) 3 33 := ⟨by decide +kernel, rfl⟩
theorem i37_33 : Jvm.Own.Ins method_3_code 33 (.aload_n 0) 1 34 := ⟨by decide +kernel, rfl⟩
theorem i37_34 : Jvm.Own.Ins method_3_code 34 (.iconst 2) 1 35 := ⟨by decide +kernel, rfl⟩
theorem i37_35 : Jvm.Own.Ins method_3_code 35 (.invokevirtual 60) 3 38 := ⟨by decide +kernel, rfl⟩
theorem i37_38 : Jvm.Own.Ins method_3_code 38 (.bipush 101) 2 40 := ⟨by decide +kernel, rfl⟩
theorem i37_40 : Jvm.Own.Ins method_3_code 40 (.if_icmp .ne 92) 3 43 := ⟨by decide +kernel, rfl⟩
theorem i37_43 : Jvm.Own.Ins method_3_code 43 (.aload_n 0) 1 44 := ⟨by decide +kernel, rfl⟩
theorem i37_44 : Jvm.Own.Ins method_3_code 44 (.iconst 3) 1 45 := ⟨by decide +kernel, rfl⟩
theorem i37_45 : Jvm.Own.Ins method_3_code 45 (.invokevirtual 60) 3 48 := ⟨by decide +kernel, rfl⟩
theorem i37_48 : Jvm.Own.Ins method_3_code 48 (.bipush 32) 2 50 := ⟨by decide +kernel, rfl⟩
theorem i37_50 : Jvm.Own.Ins method_3_code 50 (.if_icmp .ne 82) 3 53 := ⟨by decide +kernel, rfl⟩
theorem i37_53 : Jvm.Own.Ins method_3_code 53 (.aload_n 0) 1 54 := ⟨by decide +kernel, rfl⟩
theorem i37_54 : Jvm.Own.Ins method_3_code 54 (.iconst 4) 1 55 := ⟨by decide +kernel, rfl⟩
theorem i37_55 : Jvm.Own.Ins method_3_code 55 (.invokevirtual 60) 3 58 := ⟨by decide +kernel, rfl⟩
theorem i37_58 : Jvm.Own.Ins method_3_code 58 (.bipush 101) 2 60 := ⟨by decide +kernel, rfl⟩
theorem i37_60 : Jvm.Own.Ins method_3_code 60 (.if_icmp .ne 72) 3 63 := ⟨by decide +kernel, rfl⟩
theorem i37_63 : Jvm.Own.Ins method_3_code 63 (.aload_n 0) 1 64 := ⟨by decide +kernel, rfl⟩
theorem i37_64 : Jvm.Own.Ins method_3_code 64 (.iconst 5) 1 65 := ⟨by decide +kernel, rfl⟩
theorem i37_65 : Jvm.Own.Ins method_3_code 65 (.invokevirtual 60) 3 68 := ⟨by decide +kernel, rfl⟩
theorem i37_68 : Jvm.Own.Ins method_3_code 68 (.bipush 110) 2 70 := ⟨by decide +kernel, rfl⟩
theorem i37_70 : Jvm.Own.Ins method_3_code 70 (.if_icmp .ne 62) 3 73 := ⟨by decide +kernel, rfl⟩
theorem i37_73 : Jvm.Own.Ins method_3_code 73 (.aload_n 0) 1 74 := ⟨by decide +kernel, rfl⟩
theorem i37_74 : Jvm.Own.Ins method_3_code 74 (.bipush 6) 2 76 := ⟨by decide +kernel, rfl⟩
theorem i37_76 : Jvm.Own.Ins method_3_code 76 (.invokevirtual 60) 3 79 := ⟨by decide +kernel, rfl⟩
theorem i37_79 : Jvm.Own.Ins method_3_code 79 (.bipush 116) 2 81 := ⟨by decide +kernel, rfl⟩
theorem i37_81 : Jvm.Own.Ins method_3_code 81 (.if_icmp .ne 51) 3 84 := ⟨by decide +kernel, rfl⟩
theorem i37_84 : Jvm.Own.Ins method_3_code 84 (.aload_n 0) 1 85 := ⟨by decide +kernel, rfl⟩
theorem i37_85 : Jvm.Own.Ins method_3_code 85 (.bipush 7) 2 87 := ⟨by decide +kernel, rfl⟩
theorem i37_87 : Jvm.Own.Ins method_3_code 87 (.invokevirtual 60) 3 90 := ⟨by decide +kernel, rfl⟩
theorem i37_90 : Jvm.Own.Ins method_3_code 90 (.bipush 114) 2 92 := ⟨by decide +kernel, rfl⟩
theorem i37_92 : Jvm.Own.Ins method_3_code 92 (.if_icmp .ne 40) 3 95 := ⟨by decide +kernel, rfl⟩
theorem i37_95 : Jvm.Own.Ins method_3_code 95 (.aload_n 0) 1 96 := ⟨by decide +kernel, rfl⟩
theorem i37_96 : Jvm.Own.Ins method_3_code 96 (.bipush 8) 2 98 := ⟨by decide +kernel, rfl⟩
theorem i37_98 : Jvm.Own.Ins method_3_code 98 (.invokevirtual 60) 3 101 := ⟨by decide +kernel, rfl⟩
theorem i37_101 : Jvm.Own.Ins method_3_code 101 (.bipush 121) 2 103 := ⟨by decide +kernel, rfl⟩
theorem i37_103 : Jvm.Own.Ins method_3_code 103 (.if_icmp .ne 29) 3 106 := ⟨by decide +kernel, rfl⟩
theorem i37_106 : Jvm.Own.Ins method_3_code 106 (.aload_n 0) 1 107 := ⟨by decide +kernel, rfl⟩
theorem i37_107 : Jvm.Own.Ins method_3_code 107 (.bipush 9) 2 109 := ⟨by decide +kernel, rfl⟩
theorem i37_109 : Jvm.Own.Ins method_3_code 109 (.invokevirtual 60) 3 112 := ⟨by decide +kernel, rfl⟩
theorem i37_112 : Jvm.Own.Ins method_3_code 112 (.bipush 32) 2 114 := ⟨by decide +kernel, rfl⟩
theorem i37_114 : Jvm.Own.Ins method_3_code 114 (.if_icmp .ne 18) 3 117 := ⟨by decide +kernel, rfl⟩
theorem i37_117 : Jvm.Own.Ins method_3_code 117 (.aload_n 0) 1 118 := ⟨by decide +kernel, rfl⟩
theorem i37_118 : Jvm.Own.Ins method_3_code 118 (.bipush 10) 2 120 := ⟨by decide +kernel, rfl⟩
theorem i37_120 : Jvm.Own.Ins method_3_code 120 (.invokevirtual 60) 3 123 := ⟨by decide +kernel, rfl⟩
theorem i37_123 : Jvm.Own.Ins method_3_code 123 (.bipush 34) 2 125 := ⟨by decide +kernel, rfl⟩
theorem i37_125 : Jvm.Own.Ins method_3_code 125 (.if_icmp .ne 7) 3 128 := ⟨by decide +kernel, rfl⟩
theorem i37_128 : Jvm.Own.Ins method_3_code 128 (.iconst 1) 1 129 := ⟨by decide +kernel, rfl⟩
theorem i37_129 : Jvm.Own.Ins method_3_code 129 (.goto 4) 3 132 := ⟨by decide +kernel, rfl⟩
theorem i37_133 : Jvm.Own.Ins method_3_code 133 (.istore 5) 2 135 := ⟨by decide +kernel, rfl⟩
theorem i37_135 : Jvm.Own.Ins method_3_code 135 (.iload_n 1) 1 136 := ⟨by decide +kernel, rfl⟩
theorem i37_136 : Jvm.Own.Ins method_3_code 136 (.iconst 1) 1 137 := ⟨by decide +kernel, rfl⟩
theorem i37_137 : Jvm.Own.Ins method_3_code 137 (.if_icmp .lt 13) 3 140 := ⟨by decide +kernel, rfl⟩
theorem i37_140 : Jvm.Own.Ins method_3_code 140 (.aload_n 0) 1 141 := ⟨by decide +kernel, rfl⟩
theorem i37_141 : Jvm.Own.Ins method_3_code 141 (.bipush 11) 2 143 := ⟨by decide +kernel, rfl⟩
theorem i37_143 : Jvm.Own.Ins method_3_code 143 (.invokevirtual 60) 3 146 := ⟨by decide +kernel, rfl⟩
theorem i37_146 : Jvm.Own.Ins method_3_code 146 (.iload_n 2) 1 147 := ⟨by decide +kernel, rfl⟩
theorem i37_147 : Jvm.Own.Ins method_3_code 147 (.if_icmp .ne 38) 3 150 := ⟨by decide +kernel, rfl⟩
theorem i37_150 : Jvm.Own.Ins method_3_code 150 (.iload_n 1) 1 151 := ⟨by decide +kernel, rfl⟩
theorem i37_151 : Jvm.Own.Ins method_3_code 151 (.iconst 2) 1 152 := ⟨by decide +kernel, rfl⟩
theorem i37_152 : Jvm.Own.Ins method_3_code 152 (.if_icmp .lt 13) 3 155 := ⟨by decide +kernel, rfl⟩
theorem i37_155 : Jvm.Own.Ins method_3_code 155 (.aload_n 0) 1 156 := ⟨by decide +kernel, rfl⟩
theorem i37_156 : Jvm.Own.Ins method_3_code 156 (.bipush 12) 2 158 := ⟨by decide +kernel, rfl⟩
theorem i37_158 : Jvm.Own.Ins method_3_code 158 (.invokevirtual 60) 3 161 := ⟨by decide +kernel, rfl⟩
theorem i37_161 : Jvm.Own.Ins method_3_code 161 (.iload_n 3) 1 162 := ⟨by decide +kernel, rfl⟩
theorem i37_162 : Jvm.Own.Ins method_3_code 162 (.if_icmp .ne 23) 3 165 := ⟨by decide +kernel, rfl⟩
theorem i37_165 : Jvm.Own.Ins method_3_code 165 (.iload_n 1) 1 166 := ⟨by decide +kernel, rfl⟩
theorem i37_166 : Jvm.Own.Ins method_3_code 166 (.iconst 3) 1 167 := ⟨by decide +kernel, rfl⟩
theorem i37_167 : Jvm.Own.Ins method_3_code 167 (.if_icmp .lt 14) 3 170 := ⟨by decide +kernel, rfl⟩
theorem i37_170 : Jvm.Own.Ins method_3_code 170 (.aload_n 0) 1 171 := ⟨by decide +kernel, rfl⟩
theorem i37_171 : Jvm.Own.Ins method_3_code 171 (.bipush 13) 2 173 := ⟨by decide +kernel, rfl⟩
theorem i37_173 : Jvm.Own.Ins method_3_code 173 (.invokevirtual 60) 3 176 := ⟨by decide +kernel, rfl⟩
theorem i37_176 : Jvm.Own.Ins method_3_code 176 (.iload 4) 2 178 := ⟨by decide +kernel, rfl⟩
theorem i37_178 : Jvm.Own.Ins method_3_code 178 (.if_icmp .ne 7) 3 181 := ⟨by decide +kernel, rfl⟩
theorem i37_181 : Jvm.Own.Ins method_3_code 181 (.iconst 1) 1 182 := ⟨by decide +kernel, rfl⟩
theorem i37_182 : Jvm.Own.Ins method_3_code 182 (.goto 4) 3 185 := ⟨by decide +kernel, rfl⟩
theorem i37_186 : Jvm.Own.Ins method_3_code 186 (.istore 6) 2 188 := ⟨by decide +kernel, rfl⟩
theorem i37_188 : Jvm.Own.Ins method_3_code 188 (.iload 5) 2 190 := ⟨by decide +kernel, rfl⟩
theorem i37_190 : Jvm.Own.Ins method_3_code 190 (.ifCond .eq 25) 3 193 := ⟨by decide +kernel, rfl⟩
theorem i37_193 : Jvm.Own.Ins method_3_code 193 (.iload 6) 2 195 := ⟨by decide +kernel, rfl⟩
theorem i37_195 : Jvm.Own.Ins method_3_code 195 (.ifCond .eq 20) 3 198 := ⟨by decide +kernel, rfl⟩
theorem i37_198 : Jvm.Own.Ins method_3_code 198 (.aload_n 0) 1 199 := ⟨by decide +kernel, rfl⟩
theorem i37_199 : Jvm.Own.Ins method_3_code 199 (.bipush 11) 2 201 := ⟨by decide +kernel, rfl⟩
theorem i37_201 : Jvm.Own.Ins method_3_code 201 (.iload_n 1) 1 202 := ⟨by decide +kernel, rfl⟩
theorem i37_202 : Jvm.Own.Ins method_3_code 202 (.iadd) 1 203 := ⟨by decide +kernel, rfl⟩
theorem i37_203 : Jvm.Own.Ins method_3_code 203 (.invokevirtual 60) 3 206 := ⟨by decide +kernel, rfl⟩
theorem i37_206 : Jvm.Own.Ins method_3_code 206 (.bipush 34) 2 208 := ⟨by decide +kernel, rfl⟩
theorem i37_208 : Jvm.Own.Ins method_3_code 208 (.if_icmp .ne 7) 3 211 := ⟨by decide +kernel, rfl⟩
theorem i37_211 : Jvm.Own.Ins method_3_code 211 (.iconst 1) 1 212 := ⟨by decide +kernel, rfl⟩
theorem i37_212 : Jvm.Own.Ins method_3_code 212 (.goto 4) 3 215 := ⟨by decide +kernel, rfl⟩
theorem i37_216 : Jvm.Own.Ins method_3_code 216 (.ireturn) 1 217 := ⟨by decide +kernel, rfl⟩
theorem i38_0 : Jvm.Own.Ins code 0 (.iload_n 0) 1 1 := ⟨at_0, rfl⟩
theorem i38_1 : Jvm.Own.Ins code 1 (.sipush 255) 3 4 := ⟨at_1, rfl⟩
theorem i38_4 : Jvm.Own.Ins code 4 (.iand) 1 5 := ⟨at_4, rfl⟩
theorem i38_5 : Jvm.Own.Ins code 5 (.i2c) 1 6 := ⟨at_5, rfl⟩
theorem i38_6 : Jvm.Own.Ins code 6 (.istore_n 2) 1 7 := ⟨at_6, rfl⟩
theorem i38_7 : Jvm.Own.Ins code 7 (.iload_n 0) 1 8 := ⟨at_7, rfl⟩
theorem i38_8 : Jvm.Own.Ins code 8 (.bipush 8) 2 10 := ⟨at_8, rfl⟩
theorem i38_10 : Jvm.Own.Ins code 10 (.iushr) 1 11 := ⟨at_10, rfl⟩
theorem i38_11 : Jvm.Own.Ins code 11 (.sipush 255) 3 14 := ⟨at_11, rfl⟩
theorem i38_14 : Jvm.Own.Ins code 14 (.iand) 1 15 := ⟨at_14, rfl⟩
theorem i38_15 : Jvm.Own.Ins code 15 (.i2c) 1 16 := ⟨at_15, rfl⟩
theorem i38_16 : Jvm.Own.Ins code 16 (.istore_n 3) 1 17 := ⟨at_16, rfl⟩
theorem i38_17 : Jvm.Own.Ins code 17 (.iload_n 0) 1 18 := ⟨at_17, rfl⟩
theorem i38_18 : Jvm.Own.Ins code 18 (.bipush 16) 2 20 := ⟨at_18, rfl⟩
theorem i38_20 : Jvm.Own.Ins code 20 (.iushr) 1 21 := ⟨at_20, rfl⟩
theorem i38_21 : Jvm.Own.Ins code 21 (.sipush 255) 3 24 := ⟨at_21, rfl⟩
theorem i38_24 : Jvm.Own.Ins code 24 (.iand) 1 25 := ⟨at_24, rfl⟩
theorem i38_25 : Jvm.Own.Ins code 25 (.i2c) 1 26 := ⟨at_25, rfl⟩
theorem i38_26 : Jvm.Own.Ins code 26 (.istore 4) 2 28 := ⟨at_26, rfl⟩
theorem i38_28 : Jvm.Own.Ins code 28 (.iload_n 1) 1 29 := ⟨at_28, rfl⟩
theorem i38_29 : Jvm.Own.Ins code 29 (.iconst 3) 1 30 := ⟨at_29, rfl⟩
theorem i38_30 : Jvm.Own.Ins code 30 (.iand) 1 31 := ⟨at_30, rfl⟩
theorem i38_31 : Jvm.Own.Ins code 31 (.istore 5) 2 33 := ⟨at_31, rfl⟩
theorem i38_33 : Jvm.Own.Ins code 33 (.iload 5) 2 35 := ⟨at_33, rfl⟩
theorem i38_35 : Jvm.Own.Ins code 35 (.ifCond .ne 18) 3 38 := ⟨at_35, rfl⟩
theorem i38_38 : Jvm.Own.Ins code 38 (.new 7) 3 41 := ⟨at_38, rfl⟩
theorem i38_41 : Jvm.Own.Ins code 41 (.dup) 1 42 := ⟨at_41, rfl⟩
theorem i38_42 : Jvm.Own.Ins code 42 (.iconst 0) 1 43 := ⟨at_42, rfl⟩
theorem i38_43 : Jvm.Own.Ins code 43 (.newarray .char) 2 45 := ⟨at_43, rfl⟩
theorem i38_45 : Jvm.Own.Ins code 45 (.invokespecial 9) 3 48 := ⟨at_45, rfl⟩
theorem i38_48 : Jvm.Own.Ins code 48 (.astore 6) 2 50 := ⟨at_48, rfl⟩
theorem i38_50 : Jvm.Own.Ins code 50 (.goto 72) 3 53 := ⟨at_50, rfl⟩
theorem i38_53 : Jvm.Own.Ins code 53 (.iload 5) 2 55 := ⟨at_53, rfl⟩
theorem i38_55 : Jvm.Own.Ins code 55 (.iconst 1) 1 56 := ⟨at_55, rfl⟩
theorem i38_56 : Jvm.Own.Ins code 56 (.if_icmp .ne 12) 3 59 := ⟨at_56, rfl⟩
theorem i38_59 : Jvm.Own.Ins code 59 (.iload_n 2) 1 60 := ⟨at_59, rfl⟩
theorem i38_60 : Jvm.Own.Ins code 60 (.invokestatic 12) 3 63 := ⟨at_60, rfl⟩
theorem i38_63 : Jvm.Own.Ins code 63 (.astore 6) 2 65 := ⟨at_63, rfl⟩
theorem i38_65 : Jvm.Own.Ins code 65 (.goto 57) 3 68 := ⟨at_65, rfl⟩
theorem i38_68 : Jvm.Own.Ins code 68 (.iload 5) 2 70 := ⟨at_68, rfl⟩
theorem i38_70 : Jvm.Own.Ins code 70 (.iconst 2) 1 71 := ⟨at_70, rfl⟩
theorem i38_71 : Jvm.Own.Ins code 71 (.if_icmp .ne 26) 3 74 := ⟨at_71, rfl⟩
theorem i38_74 : Jvm.Own.Ins code 74 (.new 7) 3 77 := ⟨at_74, rfl⟩
theorem i38_77 : Jvm.Own.Ins code 77 (.dup) 1 78 := ⟨at_77, rfl⟩
theorem i38_78 : Jvm.Own.Ins code 78 (.iconst 2) 1 79 := ⟨at_78, rfl⟩
theorem i38_79 : Jvm.Own.Ins code 79 (.newarray .char) 2 81 := ⟨at_79, rfl⟩
theorem i38_81 : Jvm.Own.Ins code 81 (.dup) 1 82 := ⟨at_81, rfl⟩
theorem i38_82 : Jvm.Own.Ins code 82 (.iconst 0) 1 83 := ⟨at_82, rfl⟩
theorem i38_83 : Jvm.Own.Ins code 83 (.iload_n 2) 1 84 := ⟨at_83, rfl⟩
theorem i38_84 : Jvm.Own.Ins code 84 (.castore) 1 85 := ⟨at_84, rfl⟩
theorem i38_85 : Jvm.Own.Ins code 85 (.dup) 1 86 := ⟨at_85, rfl⟩
theorem i38_86 : Jvm.Own.Ins code 86 (.iconst 1) 1 87 := ⟨at_86, rfl⟩
theorem i38_87 : Jvm.Own.Ins code 87 (.iload_n 3) 1 88 := ⟨at_87, rfl⟩
theorem i38_88 : Jvm.Own.Ins code 88 (.castore) 1 89 := ⟨at_88, rfl⟩
theorem i38_89 : Jvm.Own.Ins code 89 (.invokespecial 9) 3 92 := ⟨at_89, rfl⟩
theorem i38_92 : Jvm.Own.Ins code 92 (.astore 6) 2 94 := ⟨at_92, rfl⟩
theorem i38_94 : Jvm.Own.Ins code 94 (.goto 28) 3 97 := ⟨at_94, rfl⟩
theorem i38_97 : Jvm.Own.Ins code 97 (.new 7) 3 100 := ⟨at_97, rfl⟩
theorem i38_100 : Jvm.Own.Ins code 100 (.dup) 1 101 := ⟨at_100, rfl⟩
theorem i38_101 : Jvm.Own.Ins code 101 (.iconst 3) 1 102 := ⟨at_101, rfl⟩
theorem i38_102 : Jvm.Own.Ins code 102 (.newarray .char) 2 104 := ⟨at_102, rfl⟩
theorem i38_104 : Jvm.Own.Ins code 104 (.dup) 1 105 := ⟨at_104, rfl⟩
theorem i38_105 : Jvm.Own.Ins code 105 (.iconst 0) 1 106 := ⟨at_105, rfl⟩
theorem i38_106 : Jvm.Own.Ins code 106 (.iload_n 2) 1 107 := ⟨at_106, rfl⟩
theorem i38_107 : Jvm.Own.Ins code 107 (.castore) 1 108 := ⟨at_107, rfl⟩
theorem i38_108 : Jvm.Own.Ins code 108 (.dup) 1 109 := ⟨at_108, rfl⟩
theorem i38_109 : Jvm.Own.Ins code 109 (.iconst 1) 1 110 := ⟨at_109, rfl⟩
theorem i38_110 : Jvm.Own.Ins code 110 (.iload_n 3) 1 111 := ⟨at_110, rfl⟩
theorem i38_111 : Jvm.Own.Ins code 111 (.castore) 1 112 := ⟨at_111, rfl⟩
theorem i38_112 : Jvm.Own.Ins code 112 (.dup) 1 113 := ⟨at_112, rfl⟩
theorem i38_113 : Jvm.Own.Ins code 113 (.iconst 2) 1 114 := ⟨at_113, rfl⟩
theorem i38_114 : Jvm.Own.Ins code 114 (.iload 4) 2 116 := ⟨at_114, rfl⟩
theorem i38_116 : Jvm.Own.Ins code 116 (.castore) 1 117 := ⟨at_116, rfl⟩
theorem i38_117 : Jvm.Own.Ins code 117 (.invokespecial 9) 3 120 := ⟨at_117, rfl⟩
theorem i38_120 : Jvm.Own.Ins code 120 (.astore 6) 2 122 := ⟨at_120, rfl⟩
theorem i38_122 : Jvm.Own.Ins code 122 (.aload 6) 2 124 := ⟨at_122, rfl⟩
theorem i38_124 : Jvm.Own.Ins code 124 (.invokestatic 16) 3 127 := ⟨at_124, rfl⟩
theorem i38_127 : Jvm.Own.Ins code 127 (.astore 7) 2 129 := ⟨at_127, rfl⟩
theorem i38_129 : Jvm.Own.Ins code 129 (.aload 7) 2 131 := ⟨at_129, rfl⟩
theorem i38_131 : Jvm.Own.Ins code 131 (.invokevirtual 22) 3 134 := ⟨at_131, rfl⟩
theorem i38_134 : Jvm.Own.Ins code 134 (.astore 8) 2 136 := ⟨at_134, rfl⟩
theorem i38_136 : Jvm.Own.Ins code 136 (.aload 8) 2 138 := ⟨at_136, rfl⟩
theorem i38_138 : Jvm.Own.Ins code 138 (.ifnull 51) 3 141 := ⟨at_138, rfl⟩
theorem i38_141 : Jvm.Own.Ins code 141 (.aload 6) 2 143 := ⟨at_141, rfl⟩
theorem i38_143 : Jvm.Own.Ins code 143 (.aload 8) 2 145 := ⟨at_143, rfl⟩
theorem i38_145 : Jvm.Own.Ins code 145 (.invokevirtual 28) 3 148 := ⟨at_145, rfl⟩
theorem i38_148 : Jvm.Own.Ins code 148 (.ifCond .eq 41) 3 151 := ⟨at_148, rfl⟩
theorem i38_151 : Jvm.Own.Ins code 151 (.aload 7) 2 153 := ⟨at_151, rfl⟩
theorem i38_153 : Jvm.Own.Ins code 153 (.invokevirtual 32) 3 156 := ⟨at_153, rfl⟩
theorem i38_156 : Jvm.Own.Ins code 156 (.ldc 2) 2 158 := ⟨at_156, rfl⟩
theorem i38_158 : Jvm.Own.Ins code 158 (.if_acmp .ne 31) 3 161 := ⟨at_158, rfl⟩
theorem i38_161 : Jvm.Own.Ins code 161 (.aload 7) 2 163 := ⟨at_161, rfl⟩
theorem i38_163 : Jvm.Own.Ins code 163 (.invokevirtual 36) 3 166 := ⟨at_163, rfl⟩
theorem i38_166 : Jvm.Own.Ins code 166 (.ifCond .ne 23) 3 169 := ⟨at_166, rfl⟩
theorem i38_169 : Jvm.Own.Ins code 169 (.aload 7) 2 171 := ⟨at_169, rfl⟩
theorem i38_171 : Jvm.Own.Ins code 171 (.invokevirtual 40) 3 174 := ⟨at_171, rfl⟩
theorem i38_174 : Jvm.Own.Ins code 174 (.ifnonnull 15) 3 177 := ⟨at_174, rfl⟩
theorem i38_177 : Jvm.Own.Ins code 177 (.aload 7) 2 179 := ⟨at_177, rfl⟩
theorem i38_179 : Jvm.Own.Ins code 179 (.invokevirtual 44) 3 182 := ⟨at_179, rfl⟩
theorem i38_182 : Jvm.Own.Ins code 182 (.ifnonnull 7) 3 185 := ⟨at_182, rfl⟩
theorem i38_185 : Jvm.Own.Ins code 185 (.iconst 1) 1 186 := ⟨at_185, rfl⟩
theorem i38_186 : Jvm.Own.Ins code 186 (.goto 4) 3 189 := ⟨at_186, rfl⟩
theorem i38_190 : Jvm.Own.Ins code 190 (.istore 9) 2 192 := ⟨at_190, rfl⟩
theorem i38_192 : Jvm.Own.Ins code 192 (.aload 7) 2 194 := ⟨at_192, rfl⟩
theorem i38_194 : Jvm.Own.Ins code 194 (.invokevirtual 47) 3 197 := ⟨at_194, rfl⟩
theorem i38_197 : Jvm.Own.Ins code 197 (.astore 10) 2 199 := ⟨at_197, rfl⟩
theorem i38_199 : Jvm.Own.Ins code 199 (.iload 9) 2 201 := ⟨at_199, rfl⟩
theorem i38_201 : Jvm.Own.Ins code 201 (.ifCond .eq 26) 3 204 := ⟨at_201, rfl⟩
theorem i38_204 : Jvm.Own.Ins code 204 (.aload 10) 2 206 := ⟨at_204, rfl⟩
theorem i38_206 : Jvm.Own.Ins code 206 (.ifnull 21) 3 209 := ⟨at_206, rfl⟩
theorem i38_209 : Jvm.Own.Ins code 209 (.aload 10) 2 211 := ⟨at_209, rfl⟩
theorem i38_211 : Jvm.Own.Ins code 211 (.iload 5) 2 213 := ⟨at_211, rfl⟩
theorem i38_213 : Jvm.Own.Ins code 213 (.iload_n 2) 1 214 := ⟨at_213, rfl⟩
theorem i38_214 : Jvm.Own.Ins code 214 (.iload_n 3) 1 215 := ⟨at_214, rfl⟩
theorem i38_215 : Jvm.Own.Ins code 215 (.iload 4) 2 217 := ⟨at_215, rfl⟩
theorem i38_217 : Jvm.Own.Ins code 217 (.invokestatic 50) 3 220 := ⟨at_217, rfl⟩
theorem i38_220 : Jvm.Own.Ins code 220 (.ifCond .eq 7) 3 223 := ⟨at_220, rfl⟩
theorem i38_223 : Jvm.Own.Ins code 223 (.iconst 1) 1 224 := ⟨at_223, rfl⟩
theorem i38_224 : Jvm.Own.Ins code 224 (.goto 4) 3 227 := ⟨at_224, rfl⟩
theorem i38_228 : Jvm.Own.Ins code 228 (.ireturn) 1 229 := ⟨at_228, rfl⟩
theorem j1_8 : Jmp 1 (8) 9 := ⟨by decide, by decide⟩
theorem j2_7 : Jmp 2 (7) 9 := ⟨by decide, by decide⟩
theorem j2_35 : Jmp 2 (35) 37 := ⟨by decide, by decide⟩
theorem j6_4 : Jmp 6 (4) 10 := ⟨by decide, by decide⟩
theorem j8_4 : Jmp 8 (4) 12 := ⟨by decide, by decide⟩
theorem j8_5 : Jmp 8 (5) 13 := ⟨by decide, by decide⟩
theorem j10_4 : Jmp 10 (4) 14 := ⟨by decide, by decide⟩
theorem j14_4 : Jmp 14 (4) 18 := ⟨by decide, by decide⟩
theorem j14_7 : Jmp 14 (7) 21 := ⟨by decide, by decide⟩
theorem j14_24 : Jmp 14 (24) 38 := ⟨by decide, by decide⟩
theorem j22_16 : Jmp 22 (16) 38 := ⟨by decide, by decide⟩
theorem j25_18 : Jmp 25 (18) 43 := ⟨by decide, by decide⟩
theorem j35_18 : Jmp 35 (18) 53 := ⟨by decide, by decide⟩
theorem j38_59 : Jmp 38 (59) 97 := ⟨by decide, by decide⟩
theorem j50_72 : Jmp 50 (72) 122 := ⟨by decide, by decide⟩
theorem j56_12 : Jmp 56 (12) 68 := ⟨by decide, by decide⟩
theorem j65_57 : Jmp 65 (57) 122 := ⟨by decide, by decide⟩
theorem j71_26 : Jmp 71 (26) 97 := ⟨by decide, by decide⟩
theorem j94_28 : Jmp 94 (28) 122 := ⟨by decide, by decide⟩
theorem j129_4 : Jmp 129 (4) 133 := ⟨by decide, by decide⟩
theorem j137_13 : Jmp 137 (13) 150 := ⟨by decide, by decide⟩
theorem j152_13 : Jmp 152 (13) 165 := ⟨by decide, by decide⟩
theorem j167_14 : Jmp 167 (14) 181 := ⟨by decide, by decide⟩
theorem j182_4 : Jmp 182 (4) 186 := ⟨by decide, by decide⟩
theorem j186_4 : Jmp 186 (4) 190 := ⟨by decide, by decide⟩
theorem j212_4 : Jmp 212 (4) 216 := ⟨by decide, by decide⟩
theorem j224_4 : Jmp 224 (4) 228 := ⟨by decide, by decide⟩
theorem own_wS {Z : State} {a0 : Array Value} (hw : ∀ d ∈ tables_1, d.before a0 Z = true) : ∀ a ∈ Bundle.stringAtoms, a.before a0 Z = true := by
  intro a ha
  simp only [Bundle.stringAtoms, List.mem_cons, List.not_mem_nil, or_false] at ha
  rcases ha with rfl | rfl | rfl | rfl | rfl | rfl | rfl
  · exact hw _ wd_2
  · exact hw _ wd_1
  · exact hw _ wd_19
  · exact hw _ wd_29
  · exact hw _ wd_27
  · exact hw _ wd_58
  · exact hw _ wd_59
theorem ly35_32 : ((((Jvm.Lambda.Shape.mk "com/example/likeness/likeness/property/PropertyWriter$Access" "write" (Jvm.ClassFile.MethodDescriptor.mk ([(Jvm.ClassFile.FieldType.object "java/lang/Object"), (Jvm.ClassFile.FieldType.object "java/lang/Object")] : List Jvm.ClassFile.FieldType) (Option.none : Option Jvm.ClassFile.FieldType)) ([(Jvm.ClassFile.FieldType.object "java/lang/String")] : List Jvm.ClassFile.FieldType) (6 : Nat) "com/example/likeness/likeness/property/Elements" "lambda$entryWriter$4" (Jvm.ClassFile.MethodDescriptor.mk ([(Jvm.ClassFile.FieldType.object "java/lang/String"), (Jvm.ClassFile.FieldType.object "java/lang/Object"), (Jvm.ClassFile.FieldType.object "java/lang/Object")] : List Jvm.ClassFile.FieldType) (Option.none : Option Jvm.ClassFile.FieldType)) false (Jvm.ClassFile.MethodDescriptor.mk ([(Jvm.ClassFile.FieldType.object "java/lang/Object"), (Jvm.ClassFile.FieldType.object "java/lang/Object")] : List Jvm.ClassFile.FieldType) (Option.none : Option Jvm.ClassFile.FieldType)))).file "com/example/likeness/likeness/property/Elements").bind (layoutFields · 0)).map (·.2.1) = some #[.object "java/lang/String"] := by decide +kernel
end Jvm.Pilot.@@N@@
namespace Jvm.Pilot.@@N@@
open Jvm Jvm.ClassFile Sem Op Lib Jvm.Free Jvm.Stand Jvm.LawKit Jvm.RoadKit Bundle Jvm.Own Jvm.Pilot.@@N@@.Jvm.D
section OwnStr
variable {C : Cx} {R : Room} {own : String} {b : ByteArray} {ml : Nat} {rt : Option FieldType} {nm : String} {q : Bool} {Z : State} {a0 : Array Value} {EL : List (String × Nat)} {n0 : Nat} {vm : Vm} {T : State} {h : Heap} {k n : Nat} {Q : Option Value → Heap → (Addr → Prop) → Prop} {pc pc' pt : Nat} {Ls Ls' : Array Slot} {st : List Value}
theorem own_strInit (X : On C R own b ml rt nm q Z a0 EL n0 vm T h k n) (hw : ∀ d ∈ tables_1, d.before a0 Z = true) {ix W k' n' : Nat} {x c0 : Addr} {kC : ClassId} {cs : List Int32} {d v0 w0 : Value} {z N : Int32} (hi : Jvm.Own.Ins b pc (.invokespecial ix) 3 pc')
    (w1 : (Cond.methodLink own ix ⟨"java/lang/String", "<init>", "([C)V"⟩).before a0 Z = true) (gx : n0 ≤ x) (E : Exa Z h x "java/lang/String") (V : Fld Z h x "java/lang/String" "value" "[B" v0) (W0 : Fld Z h x "java/lang/String" "coder" "B" w0) (K : Arv Z h c0 kC .char N (cs.map Value.int) d) (hN : N = Int32.ofNat cs.length) (l0 : 0 < cs.length) (l2 : cs.length ≤ 4000)
    (hp : ∀ c ∈ cs, ¬ c < 0 ∧ ¬ (255 : Int32) < c) (S : Sta Z Z.heap "java/lang/String" "COMPACT_STRINGS" "Z" (.int z)) (hz : ¬ z = 0) (Sf : Safe Z EL vm h x) (hsz : Ls.size = ml) (hW : 0 + (st.map fun v => v.category).sum = W) (hfr : 4 ≤ R.frames) (hlo : W + 65 ≤ R.locals)
    (hk' : k + 1 = k') (hn' : n + cs.length = n') (hc : k' ≤ R.cells) (hsl : n' ≤ R.slots)
    (g : ∀ T' h' t kb, On C R own b ml rt nm q Z a0 EL n0 vm T' h' k' n' → Keep h h' [x] → h.size ≤ t → Str Z h' x t kb cs → Go C R q Z EL n0 Q T' pc' Ls st) : Go C R q Z EL n0 Q T pc Ls (.ref c0 :: .ref x :: st) := by
  have hws : ∀ d ∈ StrChars.Road.words, d.before a0 Z = true := fun d hd => hw d ((by decide +kernel : ∀ d ∈ StrChars.Road.words, d ∈ tables_1) d hd)
  refine X.backI (W := W) (a := x) (argsL := [.ref c0]) hi (StrChars.Road.backV (W := W) X.zw hws (kI := 4) (hw _ wd_1) (cs := cs) (bs := cs.map fun c => c.toInt8.toInt32) (n := cs.length) gx X.n0le E V W0 K (S.ext X.ext0) hz rfl hN l0 l2 hp rfl hfr hlo) (fun v h' L hq => ⟨hq.2.1, CHr.keep hq.2.2.1 (sfS Sf sf0) X.chv, X.old.keep hq.2.2.1 (allS gx all0)⟩) w1 (hw _ wd_5) (hw _ wd_6) rfl (by decide) pd24 rfl rfl hsz hW hk' hn' hc hsl ?_
  rintro T' h' v L X' ⟨rfl, -, K', E', D', t, kb, -, ht, -, V', A'⟩
  refine g T' h' t kb X' K' ht ⟨E', V', D', ?_, hp⟩
  rw [hN, List.map_map] at A'; exact A'
theorem own_strLen (X : On C R own b ml rt nm q Z a0 EL n0 vm T h k n) (hw : ∀ d ∈ tables_1, d.before a0 Z = true) {ix W : Nat} {x t : Addr} {kb : ClassId} {cs : List Int32} {z zz : Int32} (hi : Jvm.Own.Ins b pc (.invokevirtual ix) 3 pc')
    (w1 : (Cond.methodLink own ix ⟨"java/lang/String", "length", "()I"⟩).before a0 Z = true) (F : Str Z h x t kb cs) (l2 : cs.length ≤ 4000)
    (S : Sta Z Z.heap "java/lang/String" "COMPACT_STRINGS" "Z" (.int zz)) (hz : ¬ zz = 0) (hsz : Ls.size = ml) (hW : 0 + (st.map fun v => v.category).sum = W) (hfr : 2 ≤ R.frames) (hlo : W + 25 ≤ R.locals) (hc : k ≤ R.cells) (hsl : n ≤ R.slots) (hzz : Int32.ofNat cs.length = z)
    (g : ∀ T', On C R own b ml rt nm q Z a0 EL n0 vm T' h k n → Go C R q Z EL n0 Q T' pc' Ls (.int z :: st)) : Go C R q Z EL n0 Q T pc Ls (.ref x :: st) := by
  subst hzz
  have hws : ∀ d ∈ StrChars.Road.wordsLen, d.before a0 Z = true := fun d hd => hw d ((by decide +kernel : ∀ d ∈ StrChars.Road.wordsLen, d ∈ tables_1) d hd)
  refine X.backVt (W := W) (a := x) (argsL := []) (QQ := fun v h' L => v = some (.int (Int32.ofNat cs.length)) ∧ L = [] ∧ h' = h) hi (StrChars.Road.lenW (W := W) X.zw hws (kI := 4) (hw _ wd_1) F.1 F.2.1 F.2.2.1 F.2.2.2.1 (Or.inl ⟨rfl, rfl, rfl, fun c hc => (F.2.2.2.2 c hc).2⟩) (fun c hc => up16 (F.2.2.2.2 c hc)) (S.ext X.ext0) hz l2 hfr hlo) (fun v h' L hq => ⟨by rw [hq.2.1]; exact Fr.nil _, by rw [hq.2.2]; exact CHr.refl X.chv, by rw [hq.2.2]; exact X.old⟩) F.1 w1 (hw _ wd_71) (hw _ wd_73) (nfSel X.zw (hw _ wd_73)) (hw _ wd_72) (by decide) pd6 rfl rfl hsz hW rfl rfl hc hsl ?_
  rintro T' h' v L X' ⟨rfl, -, rfl⟩
  exact g T' X'
theorem own_strAt (X : On C R own b ml rt nm q Z a0 EL n0 vm T h k n) (hw : ∀ d ∈ tables_1, d.before a0 Z = true) {ix W i : Nat} {x t : Addr} {kb : ClassId} {cs : List Int32} {zz j c : Int32} {fm : Value} (hi : Jvm.Own.Ins b pc (.invokevirtual ix) 3 pc')
    (w1 : (Cond.methodLink own ix ⟨"java/lang/String", "charAt", "(I)C"⟩).before a0 Z = true) (F : Str Z h x t kb cs) (l2 : cs.length ≤ 4000)
    (S : Sta Z Z.heap "java/lang/String" "COMPACT_STRINGS" "Z" (.int zz)) (hz : ¬ zz = 0) (SF : Sta Z Z.heap "jdk/internal/util/Preconditions" "SIOOBE_FORMATTER" "Ljava/util/function/BiFunction;" fm) (hfm : fm.isRef = true) (hil : i < cs.length) (hj : j = Int32.ofNat i) (hcc : cs.getD i 0 = c) (hsz : Ls.size = ml) (hW : 0 + (st.map fun v => v.category).sum = W) (hfr : 4 ≤ R.frames) (hlo : W + 53 ≤ R.locals) (hc : k ≤ R.cells) (hsl : n ≤ R.slots)
    (g : ∀ T', On C R own b ml rt nm q Z a0 EL n0 vm T' h k n → Go C R q Z EL n0 Q T' pc' Ls (.int c :: st)) : Go C R q Z EL n0 Q T pc Ls (.int j :: .ref x :: st) := by
  subst hcc
  have hws : ∀ d ∈ StrChars.Road.wordsChN, d.before a0 Z = true := fun d hd => hw d ((by decide +kernel : ∀ d ∈ StrChars.Road.wordsChN, d ∈ tables_1) d hd)
  refine X.backVt (W := W) (a := x) (argsL := [.int j]) (QQ := fun v h' L => v = some (.int (cs.getD i 0)) ∧ L = [] ∧ h' = h) hi (StrChars.Road.chN (W := W) X.zw hws (kI := 4) (hw _ wd_1) F.1 F.2.1 F.2.2.1 F.2.2.2.1 (Or.inl ⟨rfl, rfl, rfl, fun c hc => (F.2.2.2.2 c hc).2⟩) (fun c hc => up16 (F.2.2.2.2 c hc)) (S.ext X.ext0) hz (SF.ext X.ext0) hfm l2 hil hj hfr hlo) (fun v h' L hq => ⟨by rw [hq.2.1]; exact Fr.nil _, by rw [hq.2.2]; exact CHr.refl X.chv, by rw [hq.2.2]; exact X.old⟩) F.1 w1 (hw _ wd_223) (hw _ wd_225) (nfSel X.zw (hw _ wd_225)) (hw _ wd_224) (by decide) pd31 rfl rfl hsz hW rfl rfl hc hsl ?_
  rintro T' h' v L X' ⟨rfl, -, rfl⟩
  exact g T' X'
end OwnStr
end Jvm.Pilot.@@N@@
namespace Jvm.Pilot.@@N@@
open Jvm Jvm.ClassFile Sem Op Lib Jvm.Free Jvm.Stand Jvm.LawKit Jvm.RoadKit Bundle Jvm.Own Jvm.Pilot.@@N@@.Jvm.D
def own_mk (n x y : Int32) : List Int32 := if n = 0 then [] else if n = 1 then [x] else [x, y]
theorem own_mk0 (x y : Int32) : own_mk 0 x y = [] := by simp [own_mk]
theorem own_mk1 (x y : Int32) : own_mk 1 x y = [x] := by simp [own_mk]
theorem own_mk2 (x y : Int32) : own_mk 2 x y = [x, y] := by simp [own_mk]
theorem own_mklen (n x y : Int32) : (own_mk n x y).length ≤ 4000 := by
  unfold own_mk
  split
  · simp
  · split <;> simp
abbrev own_lat (c : Int32) : Prop := ¬ c < 0 ∧ ¬ (255 : Int32) < c
theorem own_latr {c : Int32} (h : own_lat c) : 0 ≤ c.toInt ∧ c.toInt ≤ 255 := by
  have e0 : (0 : Int32).toInt = 0 := by decide
  have e1 : (255 : Int32).toInt = 255 := by decide
  have h1 : ¬ c.toInt < 0 := fun z => h.1 (Int32.lt_iff_toInt_lt.mpr (by omega))
  have h2 : ¬ 255 < c.toInt := fun z => h.2 (Int32.lt_iff_toInt_lt.mpr (by omega))
  omega
theorem own_i2c {c : Int32} (h : own_lat c) : c.toUInt32.toUInt16.toUInt32.toInt32 = c := by
  have q := c_i2c c
  have r := own_latr h
  apply Int32.toInt_inj.mp
  omega
theorem own_and3 (x : Int32) : x &&& 3 = 0 ∨ x &&& 3 = 1 ∨ x &&& 3 = 2 ∨ x &&& 3 = 3 := by
  have q := c_mask x 3 2 (by decide) (by decide)
  have e0 : (0 : Int32).toInt = 0 := by decide
  have e1 : (1 : Int32).toInt = 1 := by decide
  have e2 : (2 : Int32).toInt = 2 := by decide
  have e3 : (3 : Int32).toInt = 3 := by decide
  have r : (x &&& 3).toInt = 0 ∨ (x &&& 3).toInt = 1 ∨ (x &&& 3).toInt = 2 ∨ (x &&& 3).toInt = 3 := by omega
  rcases r with r | r | r | r
  · exact Or.inl (Int32.toInt_inj.mp (r.trans e0.symm))
  · exact Or.inr (Or.inl (Int32.toInt_inj.mp (r.trans e1.symm)))
  · exact Or.inr (Or.inr (Or.inl (Int32.toInt_inj.mp (r.trans e2.symm))))
  · exact Or.inr (Or.inr (Or.inr (Int32.toInt_inj.mp (r.trans e3.symm))))
abbrev own_f (c : Int32) : Value := Value.int c.toInt8.toInt32
theorem own_nn {n : Nat} (h : n ≤ 4000) : ¬ (Int32.ofNat n) < 0 := by
  intro z
  have z1 := Int32.lt_iff_toInt_lt.mp z
  have e1 : (Int32.ofNat n).toInt = n := Int32.toInt_ofNat_small (by omega)
  have e2 : (0 : Int32).toInt = 0 := by decide
  omega
theorem own_tn {n : Nat} (h : n ≤ 4000) : (Int32.ofNat n).toNatClampNeg = n := by
  have e1 : (Int32.ofNat n).toInt = n := Int32.toInt_ofNat_small (by omega)
  show (Int32.ofNat n).toInt.toNat = _
  rw [e1]; rfl
theorem own_addl (bs cs : List Int32) : Int32.ofNat bs.length + Int32.ofNat cs.length = Int32.ofNat (bs ++ cs).length := by
  rw [List.length_append, Int32.ofNat_add]
theorem own_room16 {n : Nat} (h : n ≤ 16) : ¬ (0 : Int32) < Int32.ofNat n - (16 : Int32) := by
  intro z
  have z1 := Int32.lt_iff_toInt_lt.mp z
  have e1 : (Int32.ofNat n).toInt = n := Int32.toInt_ofNat_small (by omega)
  have e2 : (0 : Int32).toInt = 0 := by decide
  have e3 : (16 : Int32).toInt = 16 := by decide
  have q := c_isub (Int32.ofNat n) 16
  have r := rng32 (Int32.ofNat n - 16)
  omega
theorem own_ne16 {n : Nat} (h : n < 16) : ¬ Int32.ofNat n = (16 : Int32) := by
  intro z
  have e1 : (Int32.ofNat n).toInt = n := Int32.toInt_ofNat_small (by omega)
  have e3 : (16 : Int32).toInt = 16 := by decide
  rw [z, e3] at e1; omega
theorem own_shl0 (x : Int32) : x <<< ((0 : Int32) &&& 31) = x := by
  have e : ((0 : Int32) &&& 31) = 0 := by decide
  rw [e]; simp
theorem own_shr0 (x : Int32) : x >>> ((0 : Int32) &&& 31) = x := by
  have e : ((0 : Int32) &&& 31) = 0 := by decide
  rw [e]; simp
theorem own_sub0 (x : Int32) : x - (0 : Int32) = x := by simp
theorem own_ge0 {n : Nat} (h : n ≤ 4000) : ¬ Int32.ofNat n < (0 : Int32) := own_nn h
theorem own_min16 {n : Nat} {r : Int32} (hn : n ≤ 16) (h : (r = (16 : Int32) ∧ ¬ (Int32.ofNat n) < (16 : Int32)) ∨ (r = Int32.ofNat n ∧ (Int32.ofNat n) < (16 : Int32))) : r = Int32.ofNat n := by
  rcases h with ⟨rfl, h⟩ | ⟨rfl, -⟩
  · have e1 : (Int32.ofNat n).toInt = n := Int32.toInt_ofNat_small (by omega)
    have e3 : (16 : Int32).toInt = 16 := by decide
    have : ¬ (Int32.ofNat n).toInt < (16 : Int32).toInt := fun z => h (Int32.lt_iff_toInt_lt.mpr z)
    have e4 : n = 16 := by omega
    rw [e4]; decide
  · rfl
theorem own_us (cs : List Int32) (d : Value) (k : Nat) (hk : k = cs.length) : (List.range k).map (fun i => (cs.map own_f).getD ((0 : Int32).toNatClampNeg + i) d) = cs.map own_f := by
  subst hk
  apply List.ext_getElem
  · simp
  · intro i h1 h2
    have e : (0 : Int32).toNatClampNeg + i = i := by
      have : (0 : Int32).toNatClampNeg = 0 := by decide
      omega
    simp only [List.getElem_map, List.getElem_range, e]
    simp at h2
    simp [h2]
theorem own_cat (bs cs : List Int32) (d : Value) {us : List Value} (hb : bs.length ≤ 4000) (hc : cs.length ≤ 4000) (hu : us = cs.map own_f) :
    (bs.map own_f ++ List.replicate cs.length d).take (Int32.ofNat bs.length).toNatClampNeg ++ us ++ (bs.map own_f ++ List.replicate cs.length d).drop ((Int32.ofNat bs.length).toNatClampNeg + (Int32.ofNat cs.length).toNatClampNeg) = (bs ++ cs).map own_f := by
  rw [own_tn hb, own_tn hc, hu]
  have e1 : (bs.map own_f ++ List.replicate cs.length d).take bs.length = bs.map own_f := by
    have : bs.length = (bs.map own_f).length := by simp
    rw [this, List.take_left]
  have e2 : (bs.map own_f ++ List.replicate cs.length d).drop (bs.length + cs.length) = [] := by
    apply List.drop_of_length_le; simp
  rw [e1, e2]; simp
theorem own_lapp {a b : List Int32} (h1 : ∀ c ∈ a, ¬ c < 0 ∧ ¬ (255 : Int32) < c) (h2 : ∀ c ∈ b, ¬ c < 0 ∧ ¬ (255 : Int32) < c) : ∀ c ∈ (a ++ b), ¬ c < 0 ∧ ¬ (255 : Int32) < c := by
  intro c hc
  rcases List.mem_append.mp hc with h | h
  · exact h1 c h
  · exact h2 c h
set_option maxRecDepth 65536 in
set_option maxHeartbeats 40000000 in
theorem c_coder (l : Launch) {Z : State} {a0 : Array Value} {n0 : Nat} (hw : ∀ d ∈ tables_1, d.before a0 Z = true) (hEL : EW Z a0 own_EL) {zc : Int32} (hcs : Sta Z Z.heap "java/lang/String" "COMPACT_STRINGS" "Z" (.int zc)) (hcz : ¬ zc = 0) {fm : Value} (hfm : Sta Z Z.heap "jdk/internal/util/Preconditions" "SIOOBE_FORMATTER" "Ljava/util/function/BiFunction;" fm) (hfr : fm.isRef = true) {mo : Addr} (hmo : OwnMir Z "java/lang/Object" mo) {h : Heap} (hO : Old Z n0 h) (s : Addr) (F_c : Fld Z h s "java/lang/String" "coder" "B" (.int (0 : Int32))) :
    Con [] false l Z own_EL n0 [] (⟨"java/lang/String", "coder", "()B"⟩ : MethodName) jdk_42_method_152_code 1 (some .byte) ({ frames := 0, cells := 0, slots := 0, locals := 0 } : Room) #[(.ref s)] h (fun v h' sf => v = some (.int (0 : Int32)) ∧ h = h') := by
  refine Con.intro (Ls := #[.val (.ref s)]) pn0 hEL hO (fun m => by first | rfl | (simp [entryFrame, mkF, argsToLocals, Value.category]; done)) fun C vm T hl X hs => ?_
  have X : On C ({ frames := 0, cells := 0, slots := 0, locals := 0 } : Room) "java/lang/String" jdk_42_method_152_code 1 (some .byte) "coder" false Z a0 own_EL n0 vm T h 0 0 := X
  refine X.getstatic i0_0 (hw _ wd_14) Via.refl (hcs.ext X.ext0) fun T1 X1 => ?_
  refine X1.ifN i0_3 (XT.i0_eq_f hcz) ?_
  refine X1.aload_n i0_6 rfl rfl ?_
  refine X1.getfield i0_7 (hw _ wd_26) Via.refl F_c fun T2 X2 => ?_
  refine X2.goto i0_10 j10_4 ?_
  exact X2.ireturn i0_14 (t := .byte) rfl (by decide) rfl (by decide) (by decide) (fun sf hsf => ⟨rfl, rfl⟩)
set_option maxRecDepth 65536 in
set_option maxHeartbeats 40000000 in
theorem c_infl (l : Launch) {Z : State} {a0 : Array Value} {n0 : Nat} (hw : ∀ d ∈ tables_1, d.before a0 Z = true) (hEL : EW Z a0 own_EL) {zc : Int32} (hcs : Sta Z Z.heap "java/lang/String" "COMPACT_STRINGS" "Z" (.int zc)) (hcz : ¬ zc = 0) {fm : Value} (hfm : Sta Z Z.heap "jdk/internal/util/Preconditions" "SIOOBE_FORMATTER" "Ljava/util/function/BiFunction;" fm) (hfr : fm.isRef = true) {mo : Addr} (hmo : OwnMir Z "java/lang/Object" mo) {h : Heap} (hO : Old Z n0 h) (sb : Addr) (s : Addr) (F_b : Fld Z h sb "java/lang/AbstractStringBuilder" "coder" "B" (.int (0 : Int32))) (E_s : Exa Z h s "java/lang/String") (F_c : Fld Z h s "java/lang/String" "coder" "B" (.int (0 : Int32))) :
    Con [] false l Z own_EL n0 [] (⟨"java/lang/AbstractStringBuilder", "inflateIfNeededFor", "(Ljava/lang/String;)V"⟩ : MethodName) jdk_68_method_71_code 2 none ({ frames := 1, cells := 0, slots := 0, locals := 13 } : Room) #[(.ref sb), (.ref s)] h (fun v h' sf => v = none ∧ h = h') := by
  refine Con.intro (Ls := #[.val (.ref sb), .val (.ref s)]) pn1 hEL hO (fun m => by first | rfl | (simp [entryFrame, mkF, argsToLocals, Value.category]; done)) fun C vm T hl X hs => ?_
  have X : On C ({ frames := 1, cells := 0, slots := 0, locals := 13 } : Room) "java/lang/AbstractStringBuilder" jdk_68_method_71_code 2 none "inflateIfNeededFor" false Z a0 own_EL n0 vm T h 0 0 := X
  refine X.getstatic i1_0 (hw _ wd_52) Via.refl (hcs.ext X.ext0) fun T1 X1 => ?_
  refine X1.ifN i1_3 (XT.i0_eq_f hcz) ?_
  refine X1.aload_n i1_6 rfl rfl ?_
  refine X1.getfield i1_7 (hw _ wd_55) Via.refl F_b fun T2 X2 => ?_
  refine X2.aload_n i1_10 rfl rfl ?_
  refine X2.callV hl (argsL := []) (a := s) i1_11 (c_coder l hw hEL hcs hcz hfm hfr hmo X2.old s F_c) E_s (hw _ wd_97) (hw _ wd_76) (hw _ wd_78) (nfSel X2.zw (hw _ wd_78)) (hw _ wd_77) (hw _ wd_2) (hw _ wd_79) (by decide) sf_nil pd0 rfl rfl rfl (W := 1) rfl (by decide) (by decide) (k' := 0) rfl (n' := 0) rfl (by decide) (by decide) fun vm3 T3 h3 v3 X3 r3 Q3 => ?_
  obtain ⟨rfl, rfl⟩ := Q3
  show Go _ _ _ _ _ _ _ T3 14 #[.val (.ref sb), .val (.ref s)] [(.int (0 : Int32)), (.int (0 : Int32))]
  refine X3.icY i1_14 j14_7 (by decide) ?_
  exact X3.ret i1_21 rfl (by decide) (by decide) (fun sf hsf => ⟨rfl, rfl⟩)
set_option maxRecDepth 65536 in
set_option maxHeartbeats 40000000 in
theorem c_ens (l : Launch) {Z : State} {a0 : Array Value} {n0 : Nat} (hw : ∀ d ∈ tables_1, d.before a0 Z = true) (hEL : EW Z a0 own_EL) {zc : Int32} (hcs : Sta Z Z.heap "java/lang/String" "COMPACT_STRINGS" "Z" (.int zc)) (hcz : ¬ zc = 0) {fm : Value} (hfm : Sta Z Z.heap "jdk/internal/util/Preconditions" "SIOOBE_FORMATTER" "Ljava/util/function/BiFunction;" fm) (hfr : fm.isRef = true) {mo : Addr} (hmo : OwnMir Z "java/lang/Object" mo) {h : Heap} (hO : Old Z n0 h) (sb : Addr) (ar : Addr) (ka : ClassId) (vs : List Value) (m : Nat) (F_v : Fld Z h sb "java/lang/AbstractStringBuilder" "value" "[B" (.ref ar)) (F_c : Fld Z h sb "java/lang/AbstractStringBuilder" "coder" "B" (.int (0 : Int32))) (V_ar : Arv Z h ar ka .byte (16 : Int32) vs (.int (0 : Int32))) (hm : m ≤ 16) :
    Con [] false l Z own_EL n0 [] (⟨"java/lang/AbstractStringBuilder", "ensureCapacityInternal", "(I)V"⟩ : MethodName) jdk_68_method_9_code 3 none ({ frames := 0, cells := 0, slots := 0, locals := 0 } : Room) #[(.ref sb), (.int (Int32.ofNat m))] h (fun v h' sf => v = none ∧ h = h') := by
  refine Con.intro (Ls := #[.val (.ref sb), .val (.int (Int32.ofNat m)), .unset]) pn2 hEL hO (fun m => by first | rfl | (simp [entryFrame, mkF, argsToLocals, Value.category]; done)) fun C vm T hl X hs => ?_
  have X : On C ({ frames := 0, cells := 0, slots := 0, locals := 0 } : Room) "java/lang/AbstractStringBuilder" jdk_68_method_9_code 3 none "ensureCapacityInternal" false Z a0 own_EL n0 vm T h 0 0 := X
  refine X.aload_n i2_0 rfl rfl ?_
  refine X.getfield i2_1 (hw _ wd_53) Via.refl F_v fun T1 X1 => ?_
  refine X1.arraylength i2_4 V_ar ?_
  refine X1.aload_n i2_5 rfl rfl ?_
  refine X1.getfield i2_6 (hw _ wd_55) Via.refl F_c fun T2 X2 => ?_
  refine X2.ishr i2_9 (z := (16 : Int32)) rfl ?_
  refine X2.istore_n i2_10 (Ls' := #[.val (.ref sb), .val (.int (Int32.ofNat m)), .val (.int (16 : Int32))]) rfl ?_
  refine X2.iload_n i2_11 rfl ?_
  refine X2.iload_n i2_12 rfl ?_
  refine X2.isub i2_13 (z := ((Int32.ofNat m) - (16 : Int32))) rfl ?_
  refine X2.ifY i2_14 j14_24 (XT.i0_le_t (own_room16 hm)) ?_
  exact X2.ret i2_38 rfl (by decide) (by decide) (fun sf hsf => ⟨rfl, rfl⟩)
set_option maxRecDepth 65536 in
set_option maxHeartbeats 40000000 in
theorem c_getb (l : Launch) {Z : State} {a0 : Array Value} {n0 : Nat} (hw : ∀ d ∈ tables_1, d.before a0 Z = true) (hEL : EW Z a0 own_EL) {zc : Int32} (hcs : Sta Z Z.heap "java/lang/String" "COMPACT_STRINGS" "Z" (.int zc)) (hcz : ¬ zc = 0) {fm : Value} (hfm : Sta Z Z.heap "jdk/internal/util/Preconditions" "SIOOBE_FORMATTER" "Ljava/util/function/BiFunction;" fm) (hfr : fm.isRef = true) {mo : Addr} (hmo : OwnMir Z "java/lang/Object" mo) {h : Heap} (hO : Old Z n0 h) (s : Addr) (t : Addr) (kb : ClassId) (cs : List Int32) (ar : Addr) (ka : ClassId) (bs : List Int32) (S_s : Str Z h s t kb cs) (V_ar : Arv Z h ar ka .byte (16 : Int32) (bs.map own_f) (.int (0 : Int32))) (g_ar : n0 ≤ ar) (lb : bs.length ≤ 16) (lc : (bs ++ cs).length ≤ 16) :
    Con [] false l Z own_EL n0 [ar] (⟨"java/lang/String", "getBytes", "([BIB)V"⟩ : MethodName) jdk_42_method_147_code 4 none ({ frames := 1, cells := 0, slots := 0, locals := 18 } : Room) #[(.ref s), (.ref ar), (.int (Int32.ofNat bs.length)), (.int (0 : Int32))] h (fun v h' sf => v = none ∧ Keep h h' [ar] ∧ Arv Z h' ar ka .byte (16 : Int32) ((bs ++ cs).map own_f) (.int (0 : Int32)) ∧ sf ar) := by
  refine Con.intro (Ls := #[.val (.ref s), .val (.ref ar), .val (.int (Int32.ofNat bs.length)), .val (.int (0 : Int32))]) pn3 hEL hO (fun m => by first | rfl | (simp [entryFrame, mkF, argsToLocals, Value.category]; done)) fun C vm T hl X hs => ?_
  have X : On C ({ frames := 1, cells := 0, slots := 0, locals := 18 } : Room) "java/lang/String" jdk_42_method_147_code 4 none "getBytes" false Z a0 own_EL n0 vm T h 0 0 := X
  have sf_ar := hs ar (List.mem_of_getElem? (i := 0) rfl)
  have hl16 : bs.length + cs.length ≤ 16 := by rw [← List.length_append]; exact lc
  have lb4 : bs.length ≤ 4000 := by omega
  have lc4 : cs.length ≤ 4000 := by omega
  have Fv1 : Fld Z h s "java/lang/String" "value" "[B" (.ref t) := S_s.2.1
  have Fc1 : Fld Z h s "java/lang/String" "coder" "B" (.int (0 : Int32)) := S_s.2.2.1
  have Vt1 : Arv Z h t kb .byte (Int32.ofNat cs.length) (cs.map own_f) (.int (0 : Int32)) := S_s.2.2.2.1
  refine X.aload_n i3_0 rfl rfl ?_
  refine X.callV hl (argsL := []) (a := s) i3_1 (c_coder l hw hEL hcs hcz hfm hfr hmo X.old s Fc1) S_s.1 (hw _ wd_75) (hw _ wd_76) (hw _ wd_78) (nfSel X.zw (hw _ wd_78)) (hw _ wd_77) (hw _ wd_2) (hw _ wd_79) (by decide) sf_nil pd0 rfl rfl rfl (W := 0) rfl (by decide) (by decide) (k' := 0) rfl (n' := 0) rfl (by decide) (by decide) fun vm2 T2 h2 v2 X2 r2 Q2 => ?_
  obtain ⟨rfl, rfl⟩ := Q2
  show Go _ _ _ _ _ _ _ T2 4 #[.val (.ref s), .val (.ref ar), .val (.int (Int32.ofNat bs.length)), .val (.int (0 : Int32))] [(.int (0 : Int32))]
  refine X2.iload_n i3_4 rfl ?_
  refine X2.icN i3_5 (by decide) ?_
  refine X2.aload_n i3_8 rfl rfl ?_
  refine X2.getfield i3_9 (hw _ wd_28) Via.refl Fv1 fun T3 X3 => ?_
  refine X3.iconst i3_12 (z := (0 : Int32)) rfl ?_
  refine X3.aload_n i3_13 rfl rfl ?_
  refine X3.iload_n i3_14 rfl ?_
  refine X3.iload_n i3_15 rfl ?_
  refine X3.ishl i3_16 (z := (Int32.ofNat bs.length)) (own_shl0 _) ?_
  refine X3.aload_n i3_17 rfl rfl ?_
  refine X3.getfield i3_18 (hw _ wd_28) Via.refl Fv1 fun T4 X4 => ?_
  refine X4.arraylength i3_21 Vt1 ?_
  have Sf6 := (r2).safe (V_ar).lt sf_ar
  have B5 := V_ar.pad (pad_rep (bs.map own_f) (.int (0 : Int32)) cs.length)
  refine X4.arraycopy i3_22 (hw _ wd_103) (hw _ wd_106) (hw _ wd_104) (hw _ wd_105) Vt1 B5 rfl (by decide) (own_nn lb4) (own_nn lc4) (by rw [own_tn lc4]; exact Nat.le_of_eq (Nat.zero_add _)) (by rw [own_tn lb4, own_tn lc4]; exact hl16) rfl (by rw [own_tn lb4, own_tn lc4]; simp) g_ar Sf6 rfl (by decide) (W := 0) rfl (by decide) fun T5 h5 X5 K5 V5 => ?_
  have V5 : Arv Z h5 ar ka .byte (16 : Int32) ((bs ++ cs).map own_f) (.int (0 : Int32)) := by rw [← own_cat bs cs (.int (0 : Int32)) lb4 lc4 (own_us cs (.int (0 : Int32)) _ (own_tn lc4))]; exact V5
  refine X5.goto i3_25 j25_18 ?_
  have Sf7 := ((CHr.keep K5 (sfS Sf6 sf0) X4.chv)).safe (Nat.lt_of_lt_of_le (V_ar).lt (Nat.le_refl _)) Sf6
  exact X5.ret i3_43 rfl (by decide) (by decide) (fun sf hsf => ⟨rfl, ((Keep.refl _ [ar]).trans K5 (allS (Or.inl (List.mem_of_getElem? (i := 0) rfl)) all0)), V5, hsf _ Sf7⟩)
set_option maxRecDepth 65536 in
set_option maxHeartbeats 40000000 in
theorem c_put (l : Launch) {Z : State} {a0 : Array Value} {n0 : Nat} (hw : ∀ d ∈ tables_1, d.before a0 Z = true) (hEL : EW Z a0 own_EL) {zc : Int32} (hcs : Sta Z Z.heap "java/lang/String" "COMPACT_STRINGS" "Z" (.int zc)) (hcz : ¬ zc = 0) {fm : Value} (hfm : Sta Z Z.heap "jdk/internal/util/Preconditions" "SIOOBE_FORMATTER" "Ljava/util/function/BiFunction;" fm) (hfr : fm.isRef = true) {mo : Addr} (hmo : OwnMir Z "java/lang/Object" mo) {h : Heap} (hO : Old Z n0 h) (sb : Addr) (s : Addr) (t : Addr) (kb : ClassId) (cs : List Int32) (ar : Addr) (ka : ClassId) (bs : List Int32) (S_s : Str Z h s t kb cs) (E_sb : Exa Z h sb "java/lang/StringBuilder") (F_v : Fld Z h sb "java/lang/AbstractStringBuilder" "value" "[B" (.ref ar)) (F_c : Fld Z h sb "java/lang/AbstractStringBuilder" "coder" "B" (.int (0 : Int32))) (V_ar : Arv Z h ar ka .byte (16 : Int32) (bs.map own_f) (.int (0 : Int32))) (g_ar : n0 ≤ ar) (lb : bs.length ≤ 16) (lc : (bs ++ cs).length ≤ 16) :
    Con [] false l Z own_EL n0 [ar] (⟨"java/lang/AbstractStringBuilder", "putStringAt", "(ILjava/lang/String;)V"⟩ : MethodName) jdk_68_method_73_code 3 none ({ frames := 2, cells := 0, slots := 0, locals := 33 } : Room) #[(.ref sb), (.int (Int32.ofNat bs.length)), (.ref s)] h (fun v h' sf => v = none ∧ Keep h h' [ar] ∧ Arv Z h' ar ka .byte (16 : Int32) ((bs ++ cs).map own_f) (.int (0 : Int32)) ∧ sf ar) := by
  refine Con.intro (Ls := #[.val (.ref sb), .val (.int (Int32.ofNat bs.length)), .val (.ref s)]) pn4 hEL hO (fun m => by first | rfl | (simp [entryFrame, mkF, argsToLocals, Value.category]; done)) fun C vm T hl X hs => ?_
  have X : On C ({ frames := 2, cells := 0, slots := 0, locals := 33 } : Room) "java/lang/AbstractStringBuilder" jdk_68_method_73_code 3 none "putStringAt" false Z a0 own_EL n0 vm T h 0 0 := X
  have sf_ar := hs ar (List.mem_of_getElem? (i := 0) rfl)
  have Fv1 : Fld Z h s "java/lang/String" "value" "[B" (.ref t) := S_s.2.1
  have Fc1 : Fld Z h s "java/lang/String" "coder" "B" (.int (0 : Int32)) := S_s.2.2.1
  have Vt1 : Arv Z h t kb .byte (Int32.ofNat cs.length) (cs.map own_f) (.int (0 : Int32)) := S_s.2.2.2.1
  refine X.aload_n i4_0 rfl rfl ?_
  refine X.aload_n i4_1 rfl rfl ?_
  refine X.callP hl (argsL := [(.ref s)]) (a := sb) i4_2 (c_infl l hw hEL hcs hcz hfm hfr hmo X.old sb s F_c S_s.1 Fc1) E_sb (hw _ wd_92) (hw _ wd_93) (selP (by decide) (hw _ wd_95) (hw _ wd_93) (hw _ wd_94)) (hw _ wd_94) (hw _ wd_49) (hw _ wd_96) (by decide) sf_nil pd1 rfl rfl rfl (W := 0) rfl (by decide) (by decide) (k' := 0) rfl (n' := 0) rfl (by decide) (by decide) fun vm2 T2 h2 v2 X2 r2 Q2 => ?_
  obtain ⟨rfl, rfl⟩ := Q2
  show Go _ _ _ _ _ _ _ T2 5 #[.val (.ref sb), .val (.int (Int32.ofNat bs.length)), .val (.ref s)] []
  refine X2.aload_n i4_5 rfl rfl ?_
  refine X2.aload_n i4_6 rfl rfl ?_
  refine X2.getfield i4_7 (hw _ wd_53) Via.refl F_v fun T3 X3 => ?_
  refine X3.iload_n i4_10 rfl ?_
  refine X3.aload_n i4_11 rfl rfl ?_
  refine X3.getfield i4_12 (hw _ wd_55) Via.refl F_c fun T4 X4 => ?_
  have Sf6 := (r2).safe (V_ar).lt sf_ar
  refine X4.callV hl (argsL := [(.ref ar), (.int (Int32.ofNat bs.length)), (.int (0 : Int32))]) (a := s) i4_15 (c_getb l hw hEL hcs hcz hfm hfr hmo X4.old s t kb cs ar ka bs S_s V_ar g_ar lb lc) S_s.1 (hw _ wd_98) (hw _ wd_99) (hw _ wd_101) (nfSel X4.zw (hw _ wd_101)) (hw _ wd_100) (hw _ wd_2) (hw _ wd_102) (by decide) (sf_cons ⟨Sf6, (Nat.lt_of_lt_of_le (V_ar).lt (Nat.le_refl _))⟩ sf_nil) pd2 rfl rfl rfl (W := 0) rfl (by decide) (by decide) (k' := 0) rfl (n' := 0) rfl (by decide) (by decide) fun vm5 T5 h5 v5 X5 r5 Q5 => ?_
  obtain ⟨rfl, q5_0, q5_1, q5_2⟩ := Q5
  show Go _ _ _ _ _ _ _ T5 18 #[.val (.ref sb), .val (.int (Int32.ofNat bs.length)), .val (.ref s)] []
  exact X5.ret i4_18 rfl (by decide) (by decide) (fun sf hsf => ⟨rfl, ((Keep.refl _ [ar]).trans q5_0 (allS (Or.inl (List.mem_of_getElem? (i := 0) rfl)) all0)), q5_1, hsf _ q5_2⟩)
set_option maxRecDepth 65536 in
set_option maxHeartbeats 40000000 in
theorem c_aapp (l : Launch) {Z : State} {a0 : Array Value} {n0 : Nat} (hw : ∀ d ∈ tables_1, d.before a0 Z = true) (hEL : EW Z a0 own_EL) {zc : Int32} (hcs : Sta Z Z.heap "java/lang/String" "COMPACT_STRINGS" "Z" (.int zc)) (hcz : ¬ zc = 0) {fm : Value} (hfm : Sta Z Z.heap "jdk/internal/util/Preconditions" "SIOOBE_FORMATTER" "Ljava/util/function/BiFunction;" fm) (hfr : fm.isRef = true) {mo : Addr} (hmo : OwnMir Z "java/lang/Object" mo) {h : Heap} (hO : Old Z n0 h) (sb : Addr) (s : Addr) (t : Addr) (kb : ClassId) (cs : List Int32) (ar : Addr) (ka : ClassId) (bs : List Int32) (S_s : Str Z h s t kb cs) (E_sb : Exa Z h sb "java/lang/StringBuilder") (g_sb : n0 ≤ sb) (g_ar : n0 ≤ ar) (F_v : Fld Z h sb "java/lang/AbstractStringBuilder" "value" "[B" (.ref ar)) (F_c : Fld Z h sb "java/lang/AbstractStringBuilder" "coder" "B" (.int (0 : Int32))) (F_n : Fld Z h sb "java/lang/AbstractStringBuilder" "count" "I" (.int (Int32.ofNat bs.length))) (V_ar : Arv Z h ar ka .byte (16 : Int32) (bs.map own_f) (.int (0 : Int32))) (lb : bs.length ≤ 16) (lc : (bs ++ cs).length ≤ 16) (nes : sb ≠ ar) :
    Con [] false l Z own_EL n0 [ar] (⟨"java/lang/AbstractStringBuilder", "append", "(Ljava/lang/String;)Ljava/lang/AbstractStringBuilder;"⟩ : MethodName) jdk_68_method_22_code 3 (some (.object "java/lang/AbstractStringBuilder")) ({ frames := 3, cells := 0, slots := 0, locals := 47 } : Room) #[(.ref sb), (.ref s)] h (fun v h' sf => v = some (.ref sb) ∧ Keep h h' [sb, ar] ∧ Fld Z h' sb "java/lang/AbstractStringBuilder" "value" "[B" (.ref ar) ∧ Fld Z h' sb "java/lang/AbstractStringBuilder" "coder" "B" (.int (0 : Int32)) ∧ Fld Z h' sb "java/lang/AbstractStringBuilder" "count" "I" (.int (Int32.ofNat (bs ++ cs).length)) ∧ Arv Z h' ar ka .byte (16 : Int32) ((bs ++ cs).map own_f) (.int (0 : Int32)) ∧ sf ar) := by
  refine Con.intro (Ls := #[.val (.ref sb), .val (.ref s), .unset]) pn5 hEL hO (fun m => by first | rfl | (simp [entryFrame, mkF, argsToLocals, Value.category]; done)) fun C vm T hl X hs => ?_
  have X : On C ({ frames := 3, cells := 0, slots := 0, locals := 47 } : Room) "java/lang/AbstractStringBuilder" jdk_68_method_22_code 3 (some (.object "java/lang/AbstractStringBuilder")) "append" false Z a0 own_EL n0 vm T h 0 0 := X
  have sf_ar := hs ar (List.mem_of_getElem? (i := 0) rfl)
  have lc4 : cs.length ≤ 4000 := by have := lc; rw [List.length_append] at this; omega
  refine X.aload_n i5_0 rfl rfl ?_
  refine X.nonnullY i5_1 j1_8 ?_
  refine X.aload_n i5_9 rfl rfl ?_
  refine own_strLen X hw i5_10 (hw _ wd_70) S_s lc4 hcs hcz rfl (W := 0) rfl (by decide) (by decide) (by decide) (by decide) rfl fun T1 X1 => ?_
  refine X1.istore_n i5_13 (Ls' := #[.val (.ref sb), .val (.ref s), .val (.int (Int32.ofNat cs.length))]) rfl ?_
  refine X1.aload_n i5_14 rfl rfl ?_
  refine X1.aload_n i5_15 rfl rfl ?_
  refine X1.getfield i5_16 (hw _ wd_80) Via.refl F_n fun T2 X2 => ?_
  refine X2.iload_n i5_19 rfl ?_
  refine X2.iadd i5_20 (z := (Int32.ofNat (bs ++ cs).length)) (own_addl bs cs) ?_
  refine X2.callP hl (argsL := [(.int (Int32.ofNat (bs ++ cs).length))]) (a := sb) i5_21 (c_ens l hw hEL hcs hcz hfm hfr hmo X2.old sb ar ka (bs.map own_f) (bs ++ cs).length F_v F_c V_ar lc) E_sb (hw _ wd_82) (hw _ wd_83) (selP (by decide) (hw _ wd_85) (hw _ wd_83) (hw _ wd_84)) (hw _ wd_84) (hw _ wd_49) (hw _ wd_86) (by decide) sf_nil pd3 rfl rfl rfl (W := 0) rfl (by decide) (by decide) (k' := 0) rfl (n' := 0) rfl (by decide) (by decide) fun vm3 T3 h3 v3 X3 r3 Q3 => ?_
  obtain ⟨rfl, rfl⟩ := Q3
  show Go _ _ _ _ _ _ _ T3 24 #[.val (.ref sb), .val (.ref s), .val (.int (Int32.ofNat cs.length))] []
  refine X3.aload_n i5_24 rfl rfl ?_
  refine X3.aload_n i5_25 rfl rfl ?_
  refine X3.getfield i5_26 (hw _ wd_80) Via.refl F_n fun T4 X4 => ?_
  refine X4.aload_n i5_29 rfl rfl ?_
  have Sf6 := (r3).safe (V_ar).lt sf_ar
  refine X4.callP hl (argsL := [(.int (Int32.ofNat bs.length)), (.ref s)]) (a := sb) i5_30 (c_put l hw hEL hcs hcz hfm hfr hmo X4.old sb s t kb cs ar ka bs S_s E_sb F_v F_c V_ar g_ar lb lc) E_sb (hw _ wd_87) (hw _ wd_88) (selP (by decide) (hw _ wd_90) (hw _ wd_88) (hw _ wd_89)) (hw _ wd_89) (hw _ wd_49) (hw _ wd_91) (by decide) (sf_cons ⟨Sf6, (Nat.lt_of_lt_of_le (V_ar).lt (Nat.le_refl _))⟩ sf_nil) pd4 rfl rfl rfl (W := 0) rfl (by decide) (by decide) (k' := 0) rfl (n' := 0) rfl (by decide) (by decide) fun vm5 T5 h5 v5 X5 r5 Q5 => ?_
  obtain ⟨rfl, q5_0, q5_1, q5_2⟩ := Q5
  show Go _ _ _ _ _ _ _ T5 33 #[.val (.ref sb), .val (.ref s), .val (.int (Int32.ofNat cs.length))] []
  refine X5.aload_n i5_33 rfl rfl ?_
  refine X5.dup i5_34 rfl ?_
  have F7 := (F_n.keep q5_0 (ninS nes nin0))
  refine X5.getfield i5_35 (hw _ wd_80) Via.refl F7 fun T8 X8 => ?_
  refine X8.iload_n i5_38 rfl ?_
  refine X8.iadd i5_39 (z := (Int32.ofNat (bs ++ cs).length)) (own_addl bs cs) ?_
  have E9 := (E_sb.keep q5_0)
  refine X8.putfield i5_40 (hw _ wd_80) Via.refl F7 E9 (Or.inl (hw _ wd_81)) (hw _ wd_40) (ty := .int) (by decide) rfl rfl g_sb (Safe.exa X8.zw.alike E9 (by decide) (by decide)) fun T10 h10 X10 W10 => ?_
  refine X10.aload_n i5_43 rfl rfl ?_
  have F11 := ((F_v.keep q5_0 (ninS nes nin0)).other W10 (Or.inr (slot_ne (Or.inl (hw _ wd_54)) (Or.inl (hw _ wd_81)) (by decide) (t := (.array .byte)) (t' := .int) (by decide) (by decide))))
  have F12 := ((F_c.keep q5_0 (ninS nes nin0)).other W10 (Or.inr (slot_ne (Or.inl (hw _ wd_56)) (Or.inl (hw _ wd_81)) (by decide) (t := .byte) (t' := .int) (by decide) (by decide))))
  have V13 := (q5_1.other W10 (Ne.symm nes))
  have Sf14 := ((CHr.wr W10 (Safe.exa X8.zw.alike E9 (by decide) (by decide)) X8.chv)).safe (q5_1).lt q5_2
  exact X10.areturn i5_44 rfl rfl rfl (by decide) (by decide) (fun sf hsf => ⟨rfl, (((Keep.refl _ [sb, ar]).trans q5_0 (allS (Or.inl (List.mem_of_getElem? (i := 1) rfl)) all0)).wr W10 (Or.inl (List.mem_of_getElem? (i := 0) rfl))), F11, F12, (F7.same W10), V13, hsf _ Sf14⟩)
set_option maxRecDepth 65536 in
set_option maxHeartbeats 40000000 in
theorem c_app (l : Launch) {Z : State} {a0 : Array Value} {n0 : Nat} (hw : ∀ d ∈ tables_1, d.before a0 Z = true) (hEL : EW Z a0 own_EL) {zc : Int32} (hcs : Sta Z Z.heap "java/lang/String" "COMPACT_STRINGS" "Z" (.int zc)) (hcz : ¬ zc = 0) {fm : Value} (hfm : Sta Z Z.heap "jdk/internal/util/Preconditions" "SIOOBE_FORMATTER" "Ljava/util/function/BiFunction;" fm) (hfr : fm.isRef = true) {mo : Addr} (hmo : OwnMir Z "java/lang/Object" mo) {h : Heap} (hO : Old Z n0 h) (sb : Addr) (s : Addr) (t : Addr) (kb : ClassId) (cs : List Int32) (ar : Addr) (ka : ClassId) (bs : List Int32) (S_s : Str Z h s t kb cs) (E_sb : Exa Z h sb "java/lang/StringBuilder") (g_sb : n0 ≤ sb) (g_ar : n0 ≤ ar) (F_v : Fld Z h sb "java/lang/AbstractStringBuilder" "value" "[B" (.ref ar)) (F_c : Fld Z h sb "java/lang/AbstractStringBuilder" "coder" "B" (.int (0 : Int32))) (F_n : Fld Z h sb "java/lang/AbstractStringBuilder" "count" "I" (.int (Int32.ofNat bs.length))) (V_ar : Arv Z h ar ka .byte (16 : Int32) (bs.map own_f) (.int (0 : Int32))) (lb : bs.length ≤ 16) (lc : (bs ++ cs).length ≤ 16) (nes : sb ≠ ar) :
    Con [] false l Z own_EL n0 [ar] (⟨"java/lang/StringBuilder", "append", "(Ljava/lang/String;)Ljava/lang/StringBuilder;"⟩ : MethodName) jdk_67_method_7_code 2 (some (.object "java/lang/StringBuilder")) ({ frames := 4, cells := 0, slots := 0, locals := 61 } : Room) #[(.ref sb), (.ref s)] h (fun v h' sf => v = some (.ref sb) ∧ Keep h h' [sb, ar] ∧ Fld Z h' sb "java/lang/AbstractStringBuilder" "value" "[B" (.ref ar) ∧ Fld Z h' sb "java/lang/AbstractStringBuilder" "coder" "B" (.int (0 : Int32)) ∧ Fld Z h' sb "java/lang/AbstractStringBuilder" "count" "I" (.int (Int32.ofNat (bs ++ cs).length)) ∧ Arv Z h' ar ka .byte (16 : Int32) ((bs ++ cs).map own_f) (.int (0 : Int32)) ∧ sf ar) := by
  refine Con.intro (Ls := #[.val (.ref sb), .val (.ref s)]) pn6 hEL hO (fun m => by first | rfl | (simp [entryFrame, mkF, argsToLocals, Value.category]; done)) fun C vm T hl X hs => ?_
  have X : On C ({ frames := 4, cells := 0, slots := 0, locals := 61 } : Room) "java/lang/StringBuilder" jdk_67_method_7_code 2 (some (.object "java/lang/StringBuilder")) "append" false Z a0 own_EL n0 vm T h 0 0 := X
  have sf_ar := hs ar (List.mem_of_getElem? (i := 0) rfl)
  refine X.aload_n i6_0 rfl rfl ?_
  refine X.aload_n i6_1 rfl rfl ?_
  refine X.callU hl (argsL := [(.ref s)]) (a := sb) i6_2 (c_aapp l hw hEL hcs hcz hfm hfr hmo X.old sb s t kb cs ar ka bs S_s E_sb g_sb g_ar F_v F_c F_n V_ar lb lc nes) E_sb (hw _ wd_65) (sameOf (hw _ wd_68) (by decide) (hw _ wd_85) rfl) (hw _ wd_66) (hw _ wd_67) (by decide) (hw _ wd_49) (hw _ wd_69) (sf_cons ⟨sf_ar, (V_ar).lt⟩ sf_nil) pd5 rfl rfl rfl (W := 0) rfl (by decide) (by decide) (k' := 0) rfl (n' := 0) rfl (by decide) (by decide) fun vm1 T1 h1 v1 X1 r1 Q1 => ?_
  obtain ⟨rfl, q1_0, q1_1, q1_2, q1_3, q1_4, q1_5⟩ := Q1
  show Go _ _ _ _ _ _ _ T1 5 #[.val (.ref sb), .val (.ref s)] [(.ref sb)]
  refine X1.pop i6_5 rfl ?_
  refine X1.aload_n i6_6 rfl rfl ?_
  exact X1.areturn i6_7 rfl rfl rfl (by decide) (by decide) (fun sf hsf => ⟨rfl, ((Keep.refl _ [sb, ar]).trans q1_0 (allS (Or.inl (List.mem_of_getElem? (i := 0) rfl)) (allS (Or.inl (List.mem_of_getElem? (i := 1) rfl)) all0))), q1_1, q1_2, q1_3, q1_4, hsf _ q1_5⟩)
set_option maxRecDepth 65536 in
set_option maxHeartbeats 40000000 in
theorem c_asbi (l : Launch) {Z : State} {a0 : Array Value} {n0 : Nat} (hw : ∀ d ∈ tables_1, d.before a0 Z = true) (hEL : EW Z a0 own_EL) {zc : Int32} (hcs : Sta Z Z.heap "java/lang/String" "COMPACT_STRINGS" "Z" (.int zc)) (hcz : ¬ zc = 0) {fm : Value} (hfm : Sta Z Z.heap "jdk/internal/util/Preconditions" "SIOOBE_FORMATTER" "Ljava/util/function/BiFunction;" fm) (hfr : fm.isRef = true) {mo : Addr} (hmo : OwnMir Z "java/lang/Object" mo) {h : Heap} (hO : Old Z n0 h) (sb : Addr) (E_sb : Exa Z h sb "java/lang/StringBuilder") (g_sb : n0 ≤ sb) (F_v : Fld Z h sb "java/lang/AbstractStringBuilder" "value" "[B" .null) (F_c : Fld Z h sb "java/lang/AbstractStringBuilder" "coder" "B" (.int (0 : Int32))) (F_n : Fld Z h sb "java/lang/AbstractStringBuilder" "count" "I" (.int (0 : Int32))) :
    Con [] false l Z own_EL n0 [] (⟨"java/lang/AbstractStringBuilder", "<init>", "(I)V"⟩ : MethodName) jdk_68_method_2_code 2 none ({ frames := 1, cells := 1, slots := 16, locals := 12 } : Room) #[(.ref sb), (.int (16 : Int32))] h (fun v h' sf => ∃ (ar : Addr) (ka : ClassId), v = none ∧ Keep h h' [sb] ∧ h.size ≤ ar ∧ Fld Z h' sb "java/lang/AbstractStringBuilder" "value" "[B" (.ref ar) ∧ Fld Z h' sb "java/lang/AbstractStringBuilder" "coder" "B" (.int (0 : Int32)) ∧ Fld Z h' sb "java/lang/AbstractStringBuilder" "count" "I" (.int (Int32.ofNat ([] : List Int32).length)) ∧ Arv Z h' ar ka .byte (16 : Int32) (([] : List Int32).map own_f) (.int (0 : Int32)) ∧ sf ar) := by
  refine Con.intro (Ls := #[.val (.ref sb), .val (.int (16 : Int32))]) pn7 hEL hO (fun m => by first | rfl | (simp [entryFrame, mkF, argsToLocals, Value.category]; done)) fun C vm T hl X hs => ?_
  have X : On C ({ frames := 1, cells := 1, slots := 16, locals := 12 } : Room) "java/lang/AbstractStringBuilder" jdk_68_method_2_code 2 none "<init>" false Z a0 own_EL n0 vm T h 0 0 := X
  refine X.aload_n i7_0 rfl rfl ?_
  refine X.initO i7_1 (hw _ wd_51) (hw _ wd_12) (hw _ wd_13) rfl (by decide) (W := 0) rfl (by decide) fun T1 X1 => ?_
  refine X1.getstatic i7_4 (hw _ wd_52) Via.refl (hcs.ext X1.ext0) fun T2 X2 => ?_
  refine X2.ifN i7_7 (XT.i0_eq_f hcz) ?_
  refine X2.aload_n i7_10 rfl rfl ?_
  refine X2.iload_n i7_11 rfl ?_
  refine X2.newarray i7_12 (ty := .byte) rfl (hw _ wd_19) (by decide) (cap := 16) (by decide) (by decide) (k' := 1) rfl (n' := 16) rfl (by decide) (by decide) fun T3 h3 a3 c3 X3 E3 z3 g3 V3 Sf3 => ?_
  have V3 : Arv Z h3 a3 c3 .byte (16 : Int32) [(.int (0 : Int32)), (.int (0 : Int32)), (.int (0 : Int32)), (.int (0 : Int32)), (.int (0 : Int32)), (.int (0 : Int32)), (.int (0 : Int32)), (.int (0 : Int32)), (.int (0 : Int32)), (.int (0 : Int32)), (.int (0 : Int32)), (.int (0 : Int32)), (.int (0 : Int32)), (.int (0 : Int32)), (.int (0 : Int32)), (.int (0 : Int32))] (.int (0 : Int32)) := V3.pad (pad_rep [] (.int (0 : Int32)) 16)
  have V4 : Arv Z h3 a3 c3 .byte (16 : Int32) (([] : List Int32).map own_f) (.int (0 : Int32)) := V3.pad (fun i => by rcases i with _ | _ | _ | _ | _ | _ | _ | _ | _ | _ | _ | _ | _ | _ | _ | _ | i <;> rfl)
  have F5 := (F_v.ext E3)
  have E6 := (E_sb.ext E3)
  refine X3.putfield i7_14 (hw _ wd_53) Via.refl F5 E6 (Or.inl (hw _ wd_54)) (hw _ wd_40) (ty := (.array .byte)) (by decide) rfl rfl g_sb (Safe.exa X3.zw.alike E6 (by decide) (by decide)) fun T7 h7 X7 W7 => ?_
  refine X7.aload_n i7_17 rfl rfl ?_
  refine X7.iconst i7_18 (z := (0 : Int32)) rfl ?_
  have F8 := ((F_c.ext E3).other W7 (Or.inr (slot_ne (Or.inl (hw _ wd_56)) (Or.inl (hw _ wd_54)) (by decide) (t := .byte) (t' := (.array .byte)) (by decide) (by decide))))
  have E9 := (E6.wr W7)
  refine X7.putfield i7_19 (hw _ wd_55) Via.refl F8 E9 (Or.inl (hw _ wd_56)) (hw _ wd_40) (ty := .byte) (by decide) rfl rfl g_sb (Safe.exa X7.zw.alike E9 (by decide) (by decide)) fun T10 h10 X10 W10 => ?_
  refine X10.goto i7_22 j22_16 ?_
  have F11 := ((F5.same W7).other W10 (Or.inr (slot_ne (Or.inl (hw _ wd_54)) (Or.inl (hw _ wd_56)) (by decide) (t := (.array .byte)) (t' := .byte) (by decide) (by decide))))
  have F12 := (((F_n.ext E3).other W7 (Or.inr (slot_ne (Or.inl (hw _ wd_81)) (Or.inl (hw _ wd_54)) (by decide) (t := .int) (t' := (.array .byte)) (by decide) (by decide)))).other W10 (Or.inr (slot_ne (Or.inl (hw _ wd_81)) (Or.inl (hw _ wd_56)) (by decide) (t := .int) (t' := .byte) (by decide) (by decide))))
  have V13 := ((V4.other W7 (Nat.ne_of_gt (Nat.lt_of_lt_of_le (F_v).lt (Nat.le_of_eq z3)))).other W10 (Nat.ne_of_gt (Nat.lt_of_lt_of_le (F_v).lt (Nat.le_of_eq z3))))
  have Sf14 := (((CHr.wr W7 (Safe.exa X3.zw.alike E6 (by decide) (by decide)) X3.chv)).trans (CHr.wr W10 (Safe.exa X7.zw.alike E9 (by decide) (by decide)) X7.chv)).safe (V3).lt Sf3
  exact X10.ret i7_38 rfl (by decide) (by decide) (fun sf hsf => ⟨a3, c3, rfl, ((((Keep.refl _ [sb]).ext E3).wr W7 (Or.inl (List.mem_of_getElem? (i := 0) rfl))).wr W10 (Or.inl (List.mem_of_getElem? (i := 0) rfl))), (Nat.le_of_eq z3), F11, (F8.same W10), F12, V13, hsf _ Sf14⟩)
set_option maxRecDepth 65536 in
set_option maxHeartbeats 40000000 in
theorem c_sbi (l : Launch) {Z : State} {a0 : Array Value} {n0 : Nat} (hw : ∀ d ∈ tables_1, d.before a0 Z = true) (hEL : EW Z a0 own_EL) {zc : Int32} (hcs : Sta Z Z.heap "java/lang/String" "COMPACT_STRINGS" "Z" (.int zc)) (hcz : ¬ zc = 0) {fm : Value} (hfm : Sta Z Z.heap "jdk/internal/util/Preconditions" "SIOOBE_FORMATTER" "Ljava/util/function/BiFunction;" fm) (hfr : fm.isRef = true) {mo : Addr} (hmo : OwnMir Z "java/lang/Object" mo) {h : Heap} (hO : Old Z n0 h) (sb : Addr) (E_sb : Exa Z h sb "java/lang/StringBuilder") (g_sb : n0 ≤ sb) (F_v : Fld Z h sb "java/lang/AbstractStringBuilder" "value" "[B" .null) (F_c : Fld Z h sb "java/lang/AbstractStringBuilder" "coder" "B" (.int (0 : Int32))) (F_n : Fld Z h sb "java/lang/AbstractStringBuilder" "count" "I" (.int (0 : Int32))) :
    Con [] false l Z own_EL n0 [] (⟨"java/lang/StringBuilder", "<init>", "()V"⟩ : MethodName) jdk_67_method_1_code 1 none ({ frames := 2, cells := 1, slots := 16, locals := 25 } : Room) #[(.ref sb)] h (fun v h' sf => ∃ (ar : Addr) (ka : ClassId), v = none ∧ Keep h h' [sb] ∧ h.size ≤ ar ∧ Fld Z h' sb "java/lang/AbstractStringBuilder" "value" "[B" (.ref ar) ∧ Fld Z h' sb "java/lang/AbstractStringBuilder" "coder" "B" (.int (0 : Int32)) ∧ Fld Z h' sb "java/lang/AbstractStringBuilder" "count" "I" (.int (Int32.ofNat ([] : List Int32).length)) ∧ Arv Z h' ar ka .byte (16 : Int32) (([] : List Int32).map own_f) (.int (0 : Int32)) ∧ sf ar) := by
  refine Con.intro (Ls := #[.val (.ref sb)]) pn8 hEL hO (fun m => by first | rfl | (simp [entryFrame, mkF, argsToLocals, Value.category]; done)) fun C vm T hl X hs => ?_
  have X : On C ({ frames := 2, cells := 1, slots := 16, locals := 25 } : Room) "java/lang/StringBuilder" jdk_67_method_1_code 1 none "<init>" false Z a0 own_EL n0 vm T h 0 0 := X
  refine X.aload_n i8_0 rfl rfl ?_
  refine X.bipush i8_1 (z := (16 : Int32)) rfl ?_
  refine X.callI hl (argsL := [(.int (16 : Int32))]) (a := sb) i8_3 (c_asbi l hw hEL hcs hcz hfm hfr hmo X.old sb E_sb g_sb F_v F_c F_n) (hw _ wd_45) (hw _ wd_46) (hw _ wd_49) (hw _ wd_50) rfl (by decide) sf_nil pd3 rfl rfl rfl (W := 0) rfl (by decide) (by decide) (k' := 1) rfl (n' := 16) rfl (by decide) (by decide) fun vm1 T1 h1 v1 X1 r1 Q1 => ?_
  obtain ⟨ar_1, ka_1, rfl, q1_0, q1_1, q1_2, q1_3, q1_4, q1_5, q1_6⟩ := Q1
  have g2 := Nat.le_trans X.n0le q1_1
  show Go _ _ _ _ _ _ _ T1 6 #[.val (.ref sb)] []
  exact X1.ret i8_6 rfl (by decide) (by decide) (fun sf hsf => ⟨ar_1, ka_1, rfl, ((Keep.refl _ [sb]).trans q1_0 (allS (Or.inl (List.mem_of_getElem? (i := 0) rfl)) all0)), q1_1, q1_2, q1_3, q1_4, q1_5, hsf _ q1_6⟩)
set_option maxRecDepth 65536 in
set_option maxHeartbeats 40000000 in
theorem c_gv (l : Launch) {Z : State} {a0 : Array Value} {n0 : Nat} (hw : ∀ d ∈ tables_1, d.before a0 Z = true) (hEL : EW Z a0 own_EL) {zc : Int32} (hcs : Sta Z Z.heap "java/lang/String" "COMPACT_STRINGS" "Z" (.int zc)) (hcz : ¬ zc = 0) {fm : Value} (hfm : Sta Z Z.heap "jdk/internal/util/Preconditions" "SIOOBE_FORMATTER" "Ljava/util/function/BiFunction;" fm) (hfr : fm.isRef = true) {mo : Addr} (hmo : OwnMir Z "java/lang/Object" mo) {h : Heap} (hO : Old Z n0 h) (sb : Addr) (ar : Addr) (F_v : Fld Z h sb "java/lang/AbstractStringBuilder" "value" "[B" (.ref ar)) :
    Con [] false l Z own_EL n0 [] (⟨"java/lang/AbstractStringBuilder", "getValue", "()[B"⟩ : MethodName) jdk_68_method_64_code 1 (some (.array .byte)) ({ frames := 0, cells := 0, slots := 0, locals := 0 } : Room) #[(.ref sb)] h (fun v h' sf => v = some (.ref ar) ∧ h = h') := by
  refine Con.intro (Ls := #[.val (.ref sb)]) pn9 hEL hO (fun m => by first | rfl | (simp [entryFrame, mkF, argsToLocals, Value.category]; done)) fun C vm T hl X hs => ?_
  have X : On C ({ frames := 0, cells := 0, slots := 0, locals := 0 } : Room) "java/lang/AbstractStringBuilder" jdk_68_method_64_code 1 (some (.array .byte)) "getValue" false Z a0 own_EL n0 vm T h 0 0 := X
  refine X.aload_n i9_0 rfl rfl ?_
  refine X.getfield i9_1 (hw _ wd_53) Via.refl F_v fun T1 X1 => ?_
  exact X1.areturn i9_4 rfl rfl rfl (by decide) (by decide) (fun sf hsf => ⟨rfl, rfl⟩)
set_option maxRecDepth 65536 in
set_option maxHeartbeats 40000000 in
theorem c_al (l : Launch) {Z : State} {a0 : Array Value} {n0 : Nat} (hw : ∀ d ∈ tables_1, d.before a0 Z = true) (hEL : EW Z a0 own_EL) {zc : Int32} (hcs : Sta Z Z.heap "java/lang/String" "COMPACT_STRINGS" "Z" (.int zc)) (hcz : ¬ zc = 0) {fm : Value} (hfm : Sta Z Z.heap "jdk/internal/util/Preconditions" "SIOOBE_FORMATTER" "Ljava/util/function/BiFunction;" fm) (hfr : fm.isRef = true) {mo : Addr} (hmo : OwnMir Z "java/lang/Object" mo) {h : Heap} (hO : Old Z n0 h) (sb : Addr) (x : Int32) (E_sb : Exa Z h sb "java/lang/StringBuilder") (F_n : Fld Z h sb "java/lang/AbstractStringBuilder" "count" "I" (.int x)) :
    Con [] false l Z own_EL n0 [] (⟨"java/lang/AbstractStringBuilder", "length", "()I"⟩ : MethodName) jdk_68_method_6_code 1 (some .int) ({ frames := 0, cells := 0, slots := 0, locals := 0 } : Room) #[(.ref sb)] h (fun v h' sf => v = some (.int x) ∧ h = h') := by
  refine Con.intro (Ls := #[.val (.ref sb)]) pn10 hEL hO (fun m => by first | rfl | (simp [entryFrame, mkF, argsToLocals, Value.category]; done)) fun C vm T hl X hs => ?_
  have X : On C ({ frames := 0, cells := 0, slots := 0, locals := 0 } : Room) "java/lang/AbstractStringBuilder" jdk_68_method_6_code 1 (some .int) "length" false Z a0 own_EL n0 vm T h 0 0 := X
  refine X.aload_n i10_0 rfl rfl ?_
  refine X.getfield i10_1 (hw _ wd_80) Via.refl F_n fun T1 X1 => ?_
  exact X1.ireturn i10_4 (t := .int) rfl (by decide) rfl (by decide) (by decide) (fun sf hsf => ⟨rfl, rfl⟩)
set_option maxRecDepth 65536 in
set_option maxHeartbeats 40000000 in
theorem c_sl (l : Launch) {Z : State} {a0 : Array Value} {n0 : Nat} (hw : ∀ d ∈ tables_1, d.before a0 Z = true) (hEL : EW Z a0 own_EL) {zc : Int32} (hcs : Sta Z Z.heap "java/lang/String" "COMPACT_STRINGS" "Z" (.int zc)) (hcz : ¬ zc = 0) {fm : Value} (hfm : Sta Z Z.heap "jdk/internal/util/Preconditions" "SIOOBE_FORMATTER" "Ljava/util/function/BiFunction;" fm) (hfr : fm.isRef = true) {mo : Addr} (hmo : OwnMir Z "java/lang/Object" mo) {h : Heap} (hO : Old Z n0 h) (sb : Addr) (x : Int32) (E_sb : Exa Z h sb "java/lang/StringBuilder") (F_n : Fld Z h sb "java/lang/AbstractStringBuilder" "count" "I" (.int x)) :
    Con [] false l Z own_EL n0 [] (⟨"java/lang/StringBuilder", "length", "()I"⟩ : MethodName) jdk_67_method_93_code 1 (some .int) ({ frames := 1, cells := 0, slots := 0, locals := 12 } : Room) #[(.ref sb)] h (fun v h' sf => v = some (.int x) ∧ h = h') := by
  refine Con.intro (Ls := #[.val (.ref sb)]) pn11 hEL hO (fun m => by first | rfl | (simp [entryFrame, mkF, argsToLocals, Value.category]; done)) fun C vm T hl X hs => ?_
  have X : On C ({ frames := 1, cells := 0, slots := 0, locals := 12 } : Room) "java/lang/StringBuilder" jdk_67_method_93_code 1 (some .int) "length" false Z a0 own_EL n0 vm T h 0 0 := X
  refine X.aload_n i11_0 rfl rfl ?_
  refine X.callU hl (argsL := []) (a := sb) i11_1 (c_al l hw hEL hcs hcz hfm hfr hmo X.old sb x E_sb F_n) E_sb (hw _ wd_131) (sameOf (hw _ wd_126) (by decide) (hw _ wd_85) rfl) (hw _ wd_127) (hw _ wd_67) (by decide) (hw _ wd_49) (hw _ wd_132) sf_nil pd6 rfl rfl rfl (W := 0) rfl (by decide) (by decide) (k' := 0) rfl (n' := 0) rfl (by decide) (by decide) fun vm1 T1 h1 v1 X1 r1 Q1 => ?_
  obtain ⟨rfl, rfl⟩ := Q1
  show Go _ _ _ _ _ _ _ T1 4 #[.val (.ref sb)] [(.int x)]
  exact X1.ireturn i11_4 (t := .int) rfl (by decide) rfl (by decide) (by decide) (fun sf hsf => ⟨rfl, rfl⟩)
set_option maxRecDepth 65536 in
set_option maxHeartbeats 40000000 in
theorem c_il (l : Launch) {Z : State} {a0 : Array Value} {n0 : Nat} (hw : ∀ d ∈ tables_1, d.before a0 Z = true) (hEL : EW Z a0 own_EL) {zc : Int32} (hcs : Sta Z Z.heap "java/lang/String" "COMPACT_STRINGS" "Z" (.int zc)) (hcz : ¬ zc = 0) {fm : Value} (hfm : Sta Z Z.heap "jdk/internal/util/Preconditions" "SIOOBE_FORMATTER" "Ljava/util/function/BiFunction;" fm) (hfr : fm.isRef = true) {mo : Addr} (hmo : OwnMir Z "java/lang/Object" mo) {h : Heap} (hO : Old Z n0 h) (sb : Addr) (F_c : Fld Z h sb "java/lang/AbstractStringBuilder" "coder" "B" (.int (0 : Int32))) :
    Con [] false l Z own_EL n0 [] (⟨"java/lang/AbstractStringBuilder", "isLatin1", "()Z"⟩ : MethodName) jdk_68_method_68_code 1 (some .boolean) ({ frames := 0, cells := 0, slots := 0, locals := 0 } : Room) #[(.ref sb)] h (fun v h' sf => v = some (.int (1 : Int32)) ∧ h = h') := by
  refine Con.intro (Ls := #[.val (.ref sb)]) pn12 hEL hO (fun m => by first | rfl | (simp [entryFrame, mkF, argsToLocals, Value.category]; done)) fun C vm T hl X hs => ?_
  have X : On C ({ frames := 0, cells := 0, slots := 0, locals := 0 } : Room) "java/lang/AbstractStringBuilder" jdk_68_method_68_code 1 (some .boolean) "isLatin1" false Z a0 own_EL n0 vm T h 0 0 := X
  refine X.getstatic i12_0 (hw _ wd_52) Via.refl (hcs.ext X.ext0) fun T1 X1 => ?_
  refine X1.ifN i12_3 (XT.i0_eq_f hcz) ?_
  refine X1.aload_n i12_6 rfl rfl ?_
  refine X1.getfield i12_7 (hw _ wd_55) Via.refl F_c fun T2 X2 => ?_
  refine X2.ifN i12_10 (by decide) ?_
  refine X2.iconst i12_13 (z := (1 : Int32)) rfl ?_
  refine X2.goto i12_14 j14_4 ?_
  exact X2.ireturn i12_18 (t := .boolean) rfl (by decide) rfl (by decide) (by decide) (fun sf hsf => ⟨rfl, rfl⟩)
set_option maxRecDepth 65536 in
set_option maxHeartbeats 40000000 in
theorem c_min (l : Launch) {Z : State} {a0 : Array Value} {n0 : Nat} (hw : ∀ d ∈ tables_1, d.before a0 Z = true) (hEL : EW Z a0 own_EL) {zc : Int32} (hcs : Sta Z Z.heap "java/lang/String" "COMPACT_STRINGS" "Z" (.int zc)) (hcz : ¬ zc = 0) {fm : Value} (hfm : Sta Z Z.heap "jdk/internal/util/Preconditions" "SIOOBE_FORMATTER" "Ljava/util/function/BiFunction;" fm) (hfr : fm.isRef = true) {mo : Addr} (hmo : OwnMir Z "java/lang/Object" mo) {h : Heap} (hO : Old Z n0 h) (x : Int32) (y : Int32)  :
    Con [] false l Z own_EL n0 [] (⟨"java/lang/Math", "min", "(II)I"⟩ : MethodName) jdk_29_method_69_code 2 (some .int) ({ frames := 0, cells := 0, slots := 0, locals := 0 } : Room) #[(.int x), (.int y)] h (fun v h' sf => ∃ (r : Int32), v = some (.int r) ∧ h = h' ∧ ((r = x ∧ ¬ y < x) ∨ (r = y ∧ y < x))) := by
  refine Con.intro (Ls := #[.val (.int x), .val (.int y)]) pn13 hEL hO (fun m => by first | rfl | (simp [entryFrame, mkF, argsToLocals, Value.category]; done)) fun C vm T hl X hs => ?_
  have X : On C ({ frames := 0, cells := 0, slots := 0, locals := 0 } : Room) "java/lang/Math" jdk_29_method_69_code 2 (some .int) "min" false Z a0 own_EL n0 vm T h 0 0 := X
  refine X.iload_n i13_0 rfl ?_
  refine X.iload_n i13_1 rfl ?_
  by_cases hc : y < x
  · skip
    refine X.icY i13_2 j2_7 (XT.ii_gt_t hc) ?_
    refine X.iload_n i13_9 rfl ?_
    exact X.ireturn i13_10 (t := .int) rfl (by decide) rfl (by decide) (by decide) (fun sf hsf => ⟨y, rfl, rfl, Or.inr ⟨rfl, hc⟩⟩)
  · skip
    refine X.icN i13_2 (XT.ii_gt_f hc) ?_
    refine X.iload_n i13_5 rfl ?_
    refine X.goto i13_6 j6_4 ?_
    exact X.ireturn i13_10 (t := .int) rfl (by decide) rfl (by decide) (by decide) (fun sf hsf => ⟨x, rfl, rfl, Or.inl ⟨rfl, hc⟩⟩)
set_option maxRecDepth 65536 in
set_option maxHeartbeats 40000000 in
theorem c_chk (l : Launch) {Z : State} {a0 : Array Value} {n0 : Nat} (hw : ∀ d ∈ tables_1, d.before a0 Z = true) (hEL : EW Z a0 own_EL) {zc : Int32} (hcs : Sta Z Z.heap "java/lang/String" "COMPACT_STRINGS" "Z" (.int zc)) (hcz : ¬ zc = 0) {fm : Value} (hfm : Sta Z Z.heap "jdk/internal/util/Preconditions" "SIOOBE_FORMATTER" "Ljava/util/function/BiFunction;" fm) (hfr : fm.isRef = true) {mo : Addr} (hmo : OwnMir Z "java/lang/Object" mo) {h : Heap} (hO : Old Z n0 h) (m : Nat) (hm : m ≤ 4000) :
    Con [] false l Z own_EL n0 [] (⟨"java/util/Arrays", "checkLength", "(II)V"⟩ : MethodName) jdk_65_method_131_code 2 none ({ frames := 0, cells := 0, slots := 0, locals := 0 } : Room) #[(.int (0 : Int32)), (.int (Int32.ofNat m))] h (fun v h' sf => v = none ∧ h = h') := by
  refine Con.intro (Ls := #[.val (.int (0 : Int32)), .val (.int (Int32.ofNat m))]) pn14 hEL hO (fun m => by first | rfl | (simp [entryFrame, mkF, argsToLocals, Value.category]; done)) fun C vm T hl X hs => ?_
  have X : On C ({ frames := 0, cells := 0, slots := 0, locals := 0 } : Room) "java/util/Arrays" jdk_65_method_131_code 2 none "checkLength" false Z a0 own_EL n0 vm T h 0 0 := X
  refine X.iload_n i14_0 rfl ?_
  refine X.iload_n i14_1 rfl ?_
  refine X.icY i14_2 j2_35 (XT.ii_ge_t (own_ge0 hm)) ?_
  exact X.ret i14_37 rfl (by decide) (by decide) (fun sf hsf => ⟨rfl, rfl⟩)
set_option maxRecDepth 65536 in
set_option maxHeartbeats 40000000 in
theorem c_corb (l : Launch) {Z : State} {a0 : Array Value} {n0 : Nat} (hw : ∀ d ∈ tables_1, d.before a0 Z = true) (hEL : EW Z a0 own_EL) {zc : Int32} (hcs : Sta Z Z.heap "java/lang/String" "COMPACT_STRINGS" "Z" (.int zc)) (hcz : ¬ zc = 0) {fm : Value} (hfm : Sta Z Z.heap "jdk/internal/util/Preconditions" "SIOOBE_FORMATTER" "Ljava/util/function/BiFunction;" fm) (hfr : fm.isRef = true) {mo : Addr} (hmo : OwnMir Z "java/lang/Object" mo) {h : Heap} (hO : Old Z n0 h) (ar : Addr) (ka : ClassId) (bs : List Int32) (V_ar : Arv Z h ar ka .byte (16 : Int32) (bs.map own_f) (.int (0 : Int32))) (lb : bs.length < 16) :
    Con [] false l Z own_EL n0 [] (⟨"java/util/Arrays", "copyOfRangeByte", "([BII)[B"⟩ : MethodName) jdk_65_method_133_code 5 (some (.array .byte)) ({ frames := 1, cells := 1, slots := 16, locals := 18 } : Room) #[(.ref ar), (.int (0 : Int32)), (.int (Int32.ofNat bs.length))] h (fun v h' sf => ∃ (r : Addr) (kr : ClassId), v = some (.ref r) ∧ Ext h h' ∧ h.size ≤ r ∧ Arv Z h' r kr .byte (Int32.ofNat bs.length) (bs.map own_f) (.int (0 : Int32))) := by
  refine Con.intro (Ls := #[.val (.ref ar), .val (.int (0 : Int32)), .val (.int (Int32.ofNat bs.length)), .unset, .unset]) pn15 hEL hO (fun m => by first | rfl | (simp [entryFrame, mkF, argsToLocals, Value.category]; done)) fun C vm T hl X hs => ?_
  have X : On C ({ frames := 1, cells := 1, slots := 16, locals := 18 } : Room) "java/util/Arrays" jdk_65_method_133_code 5 (some (.array .byte)) "copyOfRangeByte" false Z a0 own_EL n0 vm T h 0 0 := X
  have lb4 : bs.length ≤ 4000 := by omega
  have lb16 : bs.length ≤ 16 := by omega
  refine X.iload_n i15_0 rfl ?_
  refine X.iload_n i15_1 rfl ?_
  refine X.callS hl (argsL := [(.int (0 : Int32)), (.int (Int32.ofNat bs.length))]) i15_2 (c_chk l hw hEL hcs hcz hfm hfr hmo X.old bs.length lb4) (hw _ wd_145) (hw _ wd_146) (hw _ wd_140) (hw _ wd_147) (by decide) sf_nil pd7 rfl rfl rfl (W := 0) rfl (by decide) (by decide) (k' := 0) rfl (n' := 0) rfl (by decide) (by decide) fun vm1 T1 h1 v1 X1 r1 Q1 => ?_
  obtain ⟨rfl, rfl⟩ := Q1
  show Go _ _ _ _ _ _ _ T1 5 #[.val (.ref ar), .val (.int (0 : Int32)), .val (.int (Int32.ofNat bs.length)), .unset, .unset] []
  refine X1.iload_n i15_5 rfl ?_
  refine X1.iload_n i15_6 rfl ?_
  refine X1.isub i15_7 (z := (Int32.ofNat bs.length)) (own_sub0 _) ?_
  refine X1.istore_n i15_8 (Ls' := #[.val (.ref ar), .val (.int (0 : Int32)), .val (.int (Int32.ofNat bs.length)), .val (.int (Int32.ofNat bs.length)), .unset]) rfl ?_
  refine X1.iload_n i15_9 rfl ?_
  refine X1.newarray i15_10 (ty := .byte) rfl (hw _ wd_19) (own_nn lb4) (cap := 16) (by rw [own_tn lb4]; exact lb16) (by decide) (k' := 1) rfl (n' := 16) rfl (by decide) (by decide) fun T2 h2 a2 c2 X2 E2 z2 g2 V2 Sf2 => ?_
  have V2 : Arv Z h2 a2 c2 .byte (Int32.ofNat bs.length) (([] : List Int32).map own_f) (.int (0 : Int32)) := V2
  refine X2.astore i15_12 rfl (Ls' := #[.val (.ref ar), .val (.int (0 : Int32)), .val (.int (Int32.ofNat bs.length)), .val (.int (Int32.ofNat bs.length)), .val (.ref a2)]) rfl ?_
  refine X2.aload_n i15_14 rfl rfl ?_
  refine X2.iload_n i15_15 rfl ?_
  refine X2.aload i15_16 rfl rfl ?_
  refine X2.iconst i15_18 (z := (0 : Int32)) rfl ?_
  refine X2.aload_n i15_19 rfl rfl ?_
  have V3 := (V_ar.ext E2)
  refine X2.arraylength i15_20 V3 ?_
  refine X2.iload_n i15_21 rfl ?_
  refine X2.isub i15_22 (z := (16 : Int32)) rfl ?_
  refine X2.iload_n i15_23 rfl ?_
  refine X2.callS hl (argsL := [(.int (16 : Int32)), (.int (Int32.ofNat bs.length))]) i15_24 (c_min l hw hEL hcs hcz hfm hfr hmo X2.old (16 : Int32) (Int32.ofNat bs.length) ) (hw _ wd_148) (hw _ wd_149) (hw _ wd_150) (hw _ wd_151) (by decide) sf_nil pd8 rfl rfl rfl (W := 4) rfl (by decide) (by decide) (k' := 1) rfl (n' := 16) rfl (by decide) (by decide) fun vm4 T4 h4 v4 X4 r4 Q4 => ?_
  obtain ⟨r_4, rfl, rfl, q4_1⟩ := Q4
  show Go _ _ _ _ _ _ _ T4 27 #[.val (.ref ar), .val (.int (0 : Int32)), .val (.int (Int32.ofNat bs.length)), .val (.int (Int32.ofNat bs.length)), .val (.ref a2)] [(.int r_4), (.int (0 : Int32)), (.ref a2), (.int (0 : Int32)), (.ref ar)]
  have hr0 := own_min16 lb16 q4_1
  subst hr0
  have e0 : Int32.ofNat ([] : List Int32).length = (0 : Int32) := by decide
  have Sf6 := (r4).safe (V2).lt Sf2
  have B5 := V2.pad (pad_rep (([] : List Int32).map own_f) (.int (0 : Int32)) bs.length)
  refine X4.arraycopy i15_27 (hw _ wd_152) (hw _ wd_106) (hw _ wd_104) (hw _ wd_105) V3 B5 rfl (by decide) (by decide) (own_nn lb4) (by rw [own_tn lb4]; show 0 + bs.length ≤ 16; omega) (by rw [own_tn lb4]; show 0 + bs.length ≤ bs.length; omega) rfl (by rw [own_tn lb4]; show 0 + bs.length ≤ _; simp) g2 Sf6 rfl (by decide) (W := 0) rfl (by decide) fun T5 h5 X5 K5 V5 => ?_
  have V5 : Arv Z h5 a2 c2 .byte (Int32.ofNat bs.length) (bs.map own_f) (.int (0 : Int32)) := by have q := own_cat [] bs (.int (0 : Int32)) (by simp) lb4 (own_us bs (.int (0 : Int32)) _ (own_tn lb4)); rw [e0] at q; rw [show bs = [] ++ bs from rfl, ← q]; exact V5
  refine X5.aload i15_30 rfl rfl ?_
  exact X5.areturn i15_32 rfl rfl rfl (by decide) (by decide) (fun sf hsf => ⟨a2, c2, rfl, (ext_keep E2 K5 (allS (Nat.le_trans (Nat.le_refl _) (Nat.le_of_eq z2)) all0)), (Nat.le_trans (Nat.le_refl _) (Nat.le_of_eq z2)), V5⟩)
set_option maxRecDepth 65536 in
set_option maxHeartbeats 40000000 in
theorem c_cor (l : Launch) {Z : State} {a0 : Array Value} {n0 : Nat} (hw : ∀ d ∈ tables_1, d.before a0 Z = true) (hEL : EW Z a0 own_EL) {zc : Int32} (hcs : Sta Z Z.heap "java/lang/String" "COMPACT_STRINGS" "Z" (.int zc)) (hcz : ¬ zc = 0) {fm : Value} (hfm : Sta Z Z.heap "jdk/internal/util/Preconditions" "SIOOBE_FORMATTER" "Ljava/util/function/BiFunction;" fm) (hfr : fm.isRef = true) {mo : Addr} (hmo : OwnMir Z "java/lang/Object" mo) {h : Heap} (hO : Old Z n0 h) (ar : Addr) (ka : ClassId) (bs : List Int32) (V_ar : Arv Z h ar ka .byte (16 : Int32) (bs.map own_f) (.int (0 : Int32))) (lb : bs.length < 16) :
    Con [] false l Z own_EL n0 [] (⟨"java/util/Arrays", "copyOfRange", "([BII)[B"⟩ : MethodName) jdk_65_method_132_code 3 (some (.array .byte)) ({ frames := 2, cells := 1, slots := 16, locals := 34 } : Room) #[(.ref ar), (.int (0 : Int32)), (.int (Int32.ofNat bs.length))] h (fun v h' sf => ∃ (r : Addr) (kr : ClassId), v = some (.ref r) ∧ Ext h h' ∧ h.size ≤ r ∧ Arv Z h' r kr .byte (Int32.ofNat bs.length) (bs.map own_f) (.int (0 : Int32))) := by
  refine Con.intro (Ls := #[.val (.ref ar), .val (.int (0 : Int32)), .val (.int (Int32.ofNat bs.length))]) pn16 hEL hO (fun m => by first | rfl | (simp [entryFrame, mkF, argsToLocals, Value.category]; done)) fun C vm T hl X hs => ?_
  have X : On C ({ frames := 2, cells := 1, slots := 16, locals := 34 } : Room) "java/util/Arrays" jdk_65_method_132_code 3 (some (.array .byte)) "copyOfRange" false Z a0 own_EL n0 vm T h 0 0 := X
  refine X.iload_n i16_0 rfl ?_
  refine X.ifN i16_1 (by decide) ?_
  refine X.iload_n i16_4 rfl ?_
  refine X.aload_n i16_5 rfl rfl ?_
  refine X.arraylength i16_6 V_ar ?_
  refine X.icN i16_7 (XT.ii_eq_f (own_ne16 lb)) ?_
  refine X.aload_n i16_10 rfl rfl ?_
  refine X.iload_n i16_11 rfl ?_
  refine X.iload_n i16_12 rfl ?_
  refine X.callS hl (argsL := [(.ref ar), (.int (0 : Int32)), (.int (Int32.ofNat bs.length))]) i16_13 (c_corb l hw hEL hcs hcz hfm hfr hmo X.old ar ka bs V_ar lb) (hw _ wd_142) (hw _ wd_143) (hw _ wd_140) (hw _ wd_144) (by decide) sf_nil pd9 rfl rfl rfl (W := 0) rfl (by decide) (by decide) (k' := 1) rfl (n' := 16) rfl (by decide) (by decide) fun vm1 T1 h1 v1 X1 r1 Q1 => ?_
  obtain ⟨r_1, kr_1, rfl, q1_0, q1_1, q1_2⟩ := Q1
  have g2 := Nat.le_trans X.n0le q1_1
  show Go _ _ _ _ _ _ _ T1 16 #[.val (.ref ar), .val (.int (0 : Int32)), .val (.int (Int32.ofNat bs.length))] [(.ref r_1)]
  exact X1.areturn i16_16 rfl rfl rfl (by decide) (by decide) (fun sf hsf => ⟨r_1, kr_1, rfl, q1_0, q1_1, q1_2⟩)
set_option maxRecDepth 65536 in
set_option maxHeartbeats 40000000 in
theorem c_si2 (l : Launch) {Z : State} {a0 : Array Value} {n0 : Nat} (hw : ∀ d ∈ tables_1, d.before a0 Z = true) (hEL : EW Z a0 own_EL) {zc : Int32} (hcs : Sta Z Z.heap "java/lang/String" "COMPACT_STRINGS" "Z" (.int zc)) (hcz : ¬ zc = 0) {fm : Value} (hfm : Sta Z Z.heap "jdk/internal/util/Preconditions" "SIOOBE_FORMATTER" "Ljava/util/function/BiFunction;" fm) (hfr : fm.isRef = true) {mo : Addr} (hmo : OwnMir Z "java/lang/Object" mo) {h : Heap} (hO : Old Z n0 h) (x : Addr) (sb : Addr) (ar : Addr) (ka : ClassId) (bs : List Int32) (E_x : Exa Z h x "java/lang/String") (g_x : n0 ≤ x) (F_xv : Fld Z h x "java/lang/String" "value" "[B" .null) (F_xc : Fld Z h x "java/lang/String" "coder" "B" (.int (0 : Int32))) (E_sb : Exa Z h sb "java/lang/StringBuilder") (F_v : Fld Z h sb "java/lang/AbstractStringBuilder" "value" "[B" (.ref ar)) (F_c : Fld Z h sb "java/lang/AbstractStringBuilder" "coder" "B" (.int (0 : Int32))) (F_n : Fld Z h sb "java/lang/AbstractStringBuilder" "count" "I" (.int (Int32.ofNat bs.length))) (V_ar : Arv Z h ar ka .byte (16 : Int32) (bs.map own_f) (.int (0 : Int32))) (lb : bs.length < 16) (hb : ∀ c ∈ bs, ¬ c < 0 ∧ ¬ (255 : Int32) < c) (nex : sb ≠ x) (ney : ar ≠ x) :
    Con [] false l Z own_EL n0 [x] (⟨"java/lang/String", "<init>", "(Ljava/lang/AbstractStringBuilder;Ljava/lang/Void;)V"⟩ : MethodName) jdk_42_method_150_code 5 none ({ frames := 3, cells := 1, slots := 16, locals := 49 } : Room) #[(.ref x), (.ref sb), .null] h (fun v h' sf => ∃ (t : Addr) (kt : ClassId), v = none ∧ Keep h h' [x] ∧ Str Z h' x t kt bs ∧ h.size ≤ t) := by
  refine Con.intro (Ls := #[.val (.ref x), .val (.ref sb), .val .null, .unset, .unset]) pn17 hEL hO (fun m => by first | rfl | (simp [entryFrame, mkF, argsToLocals, Value.category]; done)) fun C vm T hl X hs => ?_
  have X : On C ({ frames := 3, cells := 1, slots := 16, locals := 49 } : Room) "java/lang/String" jdk_42_method_150_code 5 none "<init>" false Z a0 own_EL n0 vm T h 0 0 := X
  have sf_x := hs x (List.mem_of_getElem? (i := 0) rfl)
  refine X.aload_n i17_0 rfl rfl ?_
  refine X.initO i17_1 (hw _ wd_11) (hw _ wd_12) (hw _ wd_13) rfl (by decide) (W := 0) rfl (by decide) fun T1 X1 => ?_
  refine X1.aload_n i17_4 rfl rfl ?_
  refine X1.callV hl (argsL := []) (a := sb) i17_5 (c_gv l hw hEL hcs hcz hfm hfr hmo X1.old sb ar F_v) E_sb (hw _ wd_120) (hw _ wd_121) (hw _ wd_123) (nfSel X1.zw (hw _ wd_123)) (hw _ wd_122) (hw _ wd_49) (hw _ wd_124) (by decide) sf_nil pd10 rfl rfl rfl (W := 0) rfl (by decide) (by decide) (k' := 0) rfl (n' := 0) rfl (by decide) (by decide) fun vm2 T2 h2 v2 X2 r2 Q2 => ?_
  obtain ⟨rfl, rfl⟩ := Q2
  show Go _ _ _ _ _ _ _ T2 8 #[.val (.ref x), .val (.ref sb), .val .null, .unset, .unset] [(.ref ar)]
  refine X2.astore_n i17_8 rfl (Ls' := #[.val (.ref x), .val (.ref sb), .val .null, .val (.ref ar), .unset]) rfl ?_
  refine X2.aload_n i17_9 rfl rfl ?_
  refine X2.callV hl (argsL := []) (a := sb) i17_10 (c_sl l hw hEL hcs hcz hfm hfr hmo X2.old sb (Int32.ofNat bs.length) E_sb F_n) E_sb (hw _ wd_125) (hw _ wd_126) (hw _ wd_128) (nfOf X2.zw (hw _ wd_85) rfl) (hw _ wd_129) (hw _ wd_41) (hw _ wd_130) (by decide) sf_nil pd6 rfl rfl rfl (W := 0) rfl (by decide) (by decide) (k' := 0) rfl (n' := 0) rfl (by decide) (by decide) fun vm3 T3 h3 v3 X3 r3 Q3 => ?_
  obtain ⟨rfl, rfl⟩ := Q3
  show Go _ _ _ _ _ _ _ T3 13 #[.val (.ref x), .val (.ref sb), .val .null, .val (.ref ar), .unset] [(.int (Int32.ofNat bs.length))]
  refine X3.istore i17_13 (Ls' := #[.val (.ref x), .val (.ref sb), .val .null, .val (.ref ar), .val (.int (Int32.ofNat bs.length))]) rfl ?_
  refine X3.aload_n i17_15 rfl rfl ?_
  refine X3.callV hl (argsL := []) (a := sb) i17_16 (c_il l hw hEL hcs hcz hfm hfr hmo X3.old sb F_c) E_sb (hw _ wd_133) (hw _ wd_134) (hw _ wd_136) (nfSel X3.zw (hw _ wd_136)) (hw _ wd_135) (hw _ wd_49) (hw _ wd_137) (by decide) sf_nil pd11 rfl rfl rfl (W := 0) rfl (by decide) (by decide) (k' := 0) rfl (n' := 0) rfl (by decide) (by decide) fun vm4 T4 h4 v4 X4 r4 Q4 => ?_
  obtain ⟨rfl, rfl⟩ := Q4
  show Go _ _ _ _ _ _ _ T4 19 #[.val (.ref x), .val (.ref sb), .val .null, .val (.ref ar), .val (.int (Int32.ofNat bs.length))] [(.int (1 : Int32))]
  refine X4.ifN i17_19 (by decide) ?_
  refine X4.aload_n i17_22 rfl rfl ?_
  refine X4.iconst i17_23 (z := (0 : Int32)) rfl ?_
  have Sf6 := (((r2).trans r3).trans r4).safe (E_x).lt sf_x
  refine X4.putfield i17_24 (hw _ wd_26) Via.refl F_xc E_x (Or.inr ⟨(hw _ wd_27), rfl, rfl⟩) (hw _ wd_1) (ty := .byte) (by decide) rfl rfl g_x Sf6 fun T5 h5 X5 W5 => ?_
  refine X5.aload_n i17_27 rfl rfl ?_
  refine X5.aload_n i17_28 rfl rfl ?_
  refine X5.iconst i17_29 (z := (0 : Int32)) rfl ?_
  refine X5.iload i17_30 rfl ?_
  have V7 := (V_ar.other W5 ney)
  refine X5.callS hl (argsL := [(.ref ar), (.int (0 : Int32)), (.int (Int32.ofNat bs.length))]) i17_32 (c_cor l hw hEL hcs hcz hfm hfr hmo X5.old ar ka bs V7 lb) (hw _ wd_138) (hw _ wd_139) (hw _ wd_140) (hw _ wd_141) (by decide) sf_nil pd9 rfl rfl rfl (W := 1) rfl (by decide) (by decide) (k' := 1) rfl (n' := 16) rfl (by decide) (by decide) fun vm8 T8 h8 v8 X8 r8 Q8 => ?_
  obtain ⟨r_8, kr_8, rfl, q8_0, q8_1, q8_2⟩ := Q8
  have g9 := Nat.le_trans X5.n0le q8_1
  show Go _ _ _ _ _ _ _ T8 35 #[.val (.ref x), .val (.ref sb), .val .null, .val (.ref ar), .val (.int (Int32.ofNat bs.length))] [(.ref r_8), (.ref x)]
  have F10 := ((F_xv.other W5 (Or.inr (slot_ne (Or.inr (hw _ wd_29)) (Or.inr (hw _ wd_27)) (by decide) (t := (.array .byte)) (t' := .byte) (by decide) (by decide)))).ext q8_0)
  have E11 := ((E_x.wr W5).ext q8_0)
  have Sf13 := (((CHr.wr W5 Sf6 X4.chv)).trans r8).safe (Nat.lt_of_lt_of_le (Nat.lt_of_lt_of_le (Nat.lt_of_lt_of_le (F_xv).lt (Nat.le_refl _)) (Nat.le_refl _)) (Nat.le_refl _)) Sf6
  refine X8.putfield i17_35 (hw _ wd_28) Via.refl F10 E11 (Or.inr ⟨(hw _ wd_29), rfl, rfl⟩) (hw _ wd_1) (ty := (.array .byte)) (by decide) rfl rfl g_x Sf13 fun T12 h12 X12 W12 => ?_
  refine X12.goto i17_38 j38_59 ?_
  have E14 := (E11.wr W12)
  have F15 := (((F_xc.same W5).ext q8_0).other W12 (Or.inr (slot_ne (Or.inr (hw _ wd_27)) (Or.inr (hw _ wd_29)) (by decide) (t := .byte) (t' := (.array .byte)) (by decide) (by decide))))
  have V16 := (q8_2.other W12 (Nat.ne_of_gt (Nat.lt_of_lt_of_le ((F_xc.same W5)).lt q8_1)))
  exact X12.ret i17_97 rfl (by decide) (by decide) (fun sf hsf => ⟨r_8, kr_8, rfl, ((((Keep.refl _ [x]).wr W5 (Or.inl (List.mem_of_getElem? (i := 0) rfl))).ext q8_0).wr W12 (Or.inl (List.mem_of_getElem? (i := 0) rfl))), ⟨E14, (F10.same W12), F15, V16, hb⟩, (Nat.le_trans (Nat.le_refl _) (Nat.le_trans (Nat.le_refl _) (Nat.le_trans (Nat.le_refl _) (Nat.le_trans (Keep.of_wr W5).1 q8_1))))⟩)
set_option maxRecDepth 65536 in
set_option maxHeartbeats 40000000 in
theorem c_si1 (l : Launch) {Z : State} {a0 : Array Value} {n0 : Nat} (hw : ∀ d ∈ tables_1, d.before a0 Z = true) (hEL : EW Z a0 own_EL) {zc : Int32} (hcs : Sta Z Z.heap "java/lang/String" "COMPACT_STRINGS" "Z" (.int zc)) (hcz : ¬ zc = 0) {fm : Value} (hfm : Sta Z Z.heap "jdk/internal/util/Preconditions" "SIOOBE_FORMATTER" "Ljava/util/function/BiFunction;" fm) (hfr : fm.isRef = true) {mo : Addr} (hmo : OwnMir Z "java/lang/Object" mo) {h : Heap} (hO : Old Z n0 h) (x : Addr) (sb : Addr) (ar : Addr) (ka : ClassId) (bs : List Int32) (E_x : Exa Z h x "java/lang/String") (g_x : n0 ≤ x) (F_xv : Fld Z h x "java/lang/String" "value" "[B" .null) (F_xc : Fld Z h x "java/lang/String" "coder" "B" (.int (0 : Int32))) (E_sb : Exa Z h sb "java/lang/StringBuilder") (F_v : Fld Z h sb "java/lang/AbstractStringBuilder" "value" "[B" (.ref ar)) (F_c : Fld Z h sb "java/lang/AbstractStringBuilder" "coder" "B" (.int (0 : Int32))) (F_n : Fld Z h sb "java/lang/AbstractStringBuilder" "count" "I" (.int (Int32.ofNat bs.length))) (V_ar : Arv Z h ar ka .byte (16 : Int32) (bs.map own_f) (.int (0 : Int32))) (lb : bs.length < 16) (hb : ∀ c ∈ bs, ¬ c < 0 ∧ ¬ (255 : Int32) < c) (nex : sb ≠ x) (ney : ar ≠ x) :
    Con [] false l Z own_EL n0 [x] (⟨"java/lang/String", "<init>", "(Ljava/lang/StringBuilder;)V"⟩ : MethodName) jdk_42_method_53_code 2 none ({ frames := 4, cells := 1, slots := 16, locals := 65 } : Room) #[(.ref x), (.ref sb)] h (fun v h' sf => ∃ (t : Addr) (kt : ClassId), v = none ∧ Keep h h' [x] ∧ Str Z h' x t kt bs ∧ h.size ≤ t) := by
  refine Con.intro (Ls := #[.val (.ref x), .val (.ref sb)]) pn18 hEL hO (fun m => by first | rfl | (simp [entryFrame, mkF, argsToLocals, Value.category]; done)) fun C vm T hl X hs => ?_
  have X : On C ({ frames := 4, cells := 1, slots := 16, locals := 65 } : Room) "java/lang/String" jdk_42_method_53_code 2 none "<init>" false Z a0 own_EL n0 vm T h 0 0 := X
  have sf_x := hs x (List.mem_of_getElem? (i := 0) rfl)
  refine X.aload_n i18_0 rfl rfl ?_
  refine X.aload_n i18_1 rfl rfl ?_
  refine X.aconst_null i18_2 ?_
  refine X.callI hl (argsL := [(.ref sb), .null]) (a := x) i18_3 (c_si2 l hw hEL hcs hcz hfm hfr hmo X.old x sb ar ka bs E_x g_x F_xv F_xc E_sb F_v F_c F_n V_ar lb hb nex ney) (hw _ wd_117) (hw _ wd_118) (hw _ wd_2) (hw _ wd_119) rfl (by decide) (sf_cons ⟨sf_x, (E_x).lt⟩ sf_nil) pd12 rfl rfl rfl (W := 0) rfl (by decide) (by decide) (k' := 1) rfl (n' := 16) rfl (by decide) (by decide) fun vm1 T1 h1 v1 X1 r1 Q1 => ?_
  obtain ⟨t_1, kt_1, rfl, q1_0, q1_1, q1_2⟩ := Q1
  have g2 := Nat.le_trans X.n0le q1_2
  show Go _ _ _ _ _ _ _ T1 6 #[.val (.ref x), .val (.ref sb)] []
  exact X1.ret i18_6 rfl (by decide) (by decide) (fun sf hsf => ⟨t_1, kt_1, rfl, ((Keep.refl _ [x]).trans q1_0 (allS (Or.inl (List.mem_of_getElem? (i := 0) rfl)) all0)), q1_1, q1_2⟩)
set_option maxRecDepth 65536 in
set_option maxHeartbeats 40000000 in
theorem c_tos (l : Launch) {Z : State} {a0 : Array Value} {n0 : Nat} (hw : ∀ d ∈ tables_1, d.before a0 Z = true) (hEL : EW Z a0 own_EL) {zc : Int32} (hcs : Sta Z Z.heap "java/lang/String" "COMPACT_STRINGS" "Z" (.int zc)) (hcz : ¬ zc = 0) {fm : Value} (hfm : Sta Z Z.heap "jdk/internal/util/Preconditions" "SIOOBE_FORMATTER" "Ljava/util/function/BiFunction;" fm) (hfr : fm.isRef = true) {mo : Addr} (hmo : OwnMir Z "java/lang/Object" mo) {h : Heap} (hO : Old Z n0 h) (sb : Addr) (ar : Addr) (ka : ClassId) (bs : List Int32) (E_sb : Exa Z h sb "java/lang/StringBuilder") (F_v : Fld Z h sb "java/lang/AbstractStringBuilder" "value" "[B" (.ref ar)) (F_c : Fld Z h sb "java/lang/AbstractStringBuilder" "coder" "B" (.int (0 : Int32))) (F_n : Fld Z h sb "java/lang/AbstractStringBuilder" "count" "I" (.int (Int32.ofNat bs.length))) (V_ar : Arv Z h ar ka .byte (16 : Int32) (bs.map own_f) (.int (0 : Int32))) (lb : bs.length < 16) (hb : ∀ c ∈ bs, ¬ c < 0 ∧ ¬ (255 : Int32) < c) :
    Con [] false l Z own_EL n0 [] (⟨"java/lang/StringBuilder", "toString", "()Ljava/lang/String;"⟩ : MethodName) jdk_67_method_42_code 1 (some (.object "java/lang/String")) ({ frames := 5, cells := 2, slots := 20, locals := 79 } : Room) #[(.ref sb)] h (fun v h' sf => ∃ (x : Addr) (t : Addr) (kt : ClassId), v = some (.ref x) ∧ Ext h h' ∧ h.size ≤ x ∧ Str Z h' x t kt bs ∧ h.size ≤ t) := by
  refine Con.intro (Ls := #[.val (.ref sb)]) pn19 hEL hO (fun m => by first | rfl | (simp [entryFrame, mkF, argsToLocals, Value.category]; done)) fun C vm T hl X hs => ?_
  have X : On C ({ frames := 5, cells := 2, slots := 20, locals := 79 } : Room) "java/lang/StringBuilder" jdk_67_method_42_code 1 (some (.object "java/lang/String")) "toString" false Z a0 own_EL n0 vm T h 0 0 := X
  refine X.new i19_0 (hw _ wd_113) (hw _ wd_1) (hw _ wd_2) (k' := 1) rfl (n' := 4) rfl (by decide) (by decide) fun T1 h1 a1 X1 E1 z1 g1 A1 D1 U1 Sf1 => ?_
  refine X1.dup i19_3 rfl ?_
  refine X1.aload_n i19_4 rfl rfl ?_
  have F2 : Fld Z h1 a1 "java/lang/String" "value" "[B" .null := D1 (Or.inr (hw _ wd_29)) (ty := (.array .byte)) (by decide)
  have F3 : Fld Z h1 a1 "java/lang/String" "coder" "B" (.int (0 : Int32)) := D1 (Or.inr (hw _ wd_27)) (ty := .byte) (by decide)
  have E4 := (E_sb.ext E1)
  have F5 := (F_v.ext E1)
  have F6 := (F_c.ext E1)
  have F7 := (F_n.ext E1)
  have V8 := (V_ar.ext E1)
  refine X1.callI hl (argsL := [(.ref sb)]) (a := a1) i19_5 (c_si1 l hw hEL hcs hcz hfm hfr hmo X1.old a1 sb ar ka bs A1 g1 F2 F3 E4 F5 F6 F7 V8 lb hb (Nat.ne_of_lt (Nat.lt_of_lt_of_le (E_sb).lt (Nat.le_of_eq z1))) (Nat.ne_of_lt (Nat.lt_of_lt_of_le (V_ar).lt (Nat.le_of_eq z1)))) (hw _ wd_114) (hw _ wd_115) (hw _ wd_2) (hw _ wd_116) rfl (by decide) (sf_cons ⟨Sf1, (A1).lt⟩ sf_nil) pd13 rfl rfl rfl (W := 1) rfl (by decide) (by decide) (k' := 2) rfl (n' := 20) rfl (by decide) (by decide) fun vm9 T9 h9 v9 X9 r9 Q9 => ?_
  obtain ⟨t_9, kt_9, rfl, q9_0, q9_1, q9_2⟩ := Q9
  have g10 := Nat.le_trans X1.n0le q9_2
  show Go _ _ _ _ _ _ _ T9 8 #[.val (.ref sb)] [(.ref a1)]
  exact X9.areturn i19_8 rfl rfl rfl (by decide) (by decide) (fun sf hsf => ⟨a1, t_9, kt_9, rfl, (ext_keep E1 q9_0 (allS (Nat.le_of_eq z1) all0)), (Nat.le_of_eq z1), q9_1, (Nat.le_trans E1.1 q9_2)⟩)
set_option maxRecDepth 65536 in
set_option maxHeartbeats 40000000 in
theorem c_se4 (l : Launch) {Z : State} {a0 : Array Value} {n0 : Nat} (hw : ∀ d ∈ tables_1, d.before a0 Z = true) (hEL : EW Z a0 own_EL) {zc : Int32} (hcs : Sta Z Z.heap "java/lang/String" "COMPACT_STRINGS" "Z" (.int zc)) (hcz : ¬ zc = 0) {fm : Value} (hfm : Sta Z Z.heap "jdk/internal/util/Preconditions" "SIOOBE_FORMATTER" "Ljava/util/function/BiFunction;" fm) (hfr : fm.isRef = true) {mo : Addr} (hmo : OwnMir Z "java/lang/Object" mo) {h : Heap} (hO : Old Z n0 h) (x : Addr) (c0 : Addr) (E_x : Exa Z h x "java/lang/String") (g_x : n0 ≤ x) (F_v : Fld Z h x "java/lang/String" "value" "[B" .null) (F_c : Fld Z h x "java/lang/String" "coder" "B" (.int (0 : Int32))) :
    Con [] false l Z own_EL n0 [x] (⟨"java/lang/String", "<init>", "([CIILjava/lang/Void;)V"⟩ : MethodName) jdk_42_method_149_code 6 none ({ frames := 1, cells := 4, slots := 8, locals := 12 } : Room) #[(.ref x), (.ref c0), (.int (0 : Int32)), (.int (0 : Int32)), .null] h (fun v h' sf => ∃ (t : Addr) (kb : ClassId), v = none ∧ Keep h h' [x] ∧ Str Z h' x t kb ([] : List Int32)) := by
  refine Con.intro (Ls := #[.val (.ref x), .val (.ref c0), .val (.int (0 : Int32)), .val (.int (0 : Int32)), .val .null, .unset]) pn20 hEL hO (fun m => by first | rfl | (simp [entryFrame, mkF, argsToLocals, Value.category]; done)) fun C vm T hl X hs => ?_
  have X : On C ({ frames := 1, cells := 4, slots := 8, locals := 12 } : Room) "java/lang/String" jdk_42_method_149_code 6 none "<init>" false Z a0 own_EL n0 vm T h 0 0 := X
  have sf_x := hs x (List.mem_of_getElem? (i := 0) rfl)
  refine X.aload_n i20_0 rfl rfl ?_
  refine X.initO i20_1 (hw _ wd_11) (hw _ wd_12) (hw _ wd_13) rfl (by decide) (W := 0) rfl (by decide) fun T1 X1 => ?_
  refine X1.iload_n i20_4 rfl ?_
  refine X1.ifN i20_5 (by decide) ?_
  refine X1.aload_n i20_8 rfl rfl ?_
  refine X1.ldcS rfl (cs := ([] : List Int32)) i20_9 (hw _ wd_257) (own_wS hw) (List.mem_of_getElem? (i := 2) rfl) lt0_a lt0_b lt0_c (Nat.le_of_ble_eq_true rfl) (nn := 0) (Nat.le_of_eq lt0_d) (by decide) (k' := 2) rfl (n' := 4) rfl (by decide) (by decide) fun vm2 T2 h2 a2 t2 b2 X2 E2 r2 S2 ne2 => ?_
  have Sf3 := (r2).safe (E_x).lt sf_x
  refine X2.getfield i20_11 (hw _ wd_28) Via.refl S2.2.1 fun T4 X4 => ?_
  have F5 := (F_v.ext E2)
  have E6 := (E_x.ext E2)
  refine X4.putfield i20_14 (hw _ wd_28) Via.refl F5 E6 (Or.inr ⟨(hw _ wd_29), rfl, rfl⟩) (hw _ wd_1) (ty := (.array .byte)) (by decide) rfl rfl g_x Sf3 fun T7 h7 X7 W7 => ?_
  refine X7.aload_n i20_17 rfl rfl ?_
  refine X7.ldcS rfl (cs := ([] : List Int32)) i20_18 (hw _ wd_257) (own_wS hw) (List.mem_of_getElem? (i := 2) rfl) lt0_a lt0_b lt0_c (Nat.le_of_ble_eq_true rfl) (nn := 0) (Nat.le_of_eq lt0_d) (by decide) (k' := 4) rfl (n' := 8) rfl (by decide) (by decide) fun vm8 T8 h8 a8 t8 b8 X8 E8 r8 S8 ne8 => ?_
  refine X8.getfield i20_20 (hw _ wd_26) Via.refl S8.2.2.1 fun T9 X9 => ?_
  have F10 := (((F_c.ext E2).other W7 (Or.inr (slot_ne (Or.inr (hw _ wd_27)) (Or.inr (hw _ wd_29)) (by decide) (t := .byte) (t' := (.array .byte)) (by decide) (by decide)))).ext E8)
  have E11 := ((E6.wr W7).ext E8)
  have Sf13 := (((CHr.wr W7 Sf3 X4.chv)).trans r8).safe (E6).lt Sf3
  refine X9.putfield i20_23 (hw _ wd_26) Via.refl F10 E11 (Or.inr ⟨(hw _ wd_27), rfl, rfl⟩) (hw _ wd_1) (ty := .byte) (by decide) rfl rfl g_x Sf13 fun T12 h12 X12 W12 => ?_
  have E14 := (E11.wr W12)
  have F15 := (((F5.same W7).ext E8).other W12 (Or.inr (slot_ne (Or.inr (hw _ wd_29)) (Or.inr (hw _ wd_27)) (by decide) (t := (.array .byte)) (t' := .byte) (by decide) (by decide))))
  have V16 := (((S2.2.2.2.1.other W7 (Ne.symm (ne2 x Sf3).2)).ext E8).other W12 (Ne.symm (ne2 x Sf3).2))
  exact X12.ret i20_26 rfl (by decide) (by decide) (fun sf hsf => ⟨t2, b2, rfl, (((((Keep.refl _ [x]).ext E2).wr W7 (Or.inl (List.mem_of_getElem? (i := 0) rfl))).ext E8).wr W12 (Or.inl (List.mem_of_getElem? (i := 0) rfl))), ⟨E14, F15, (F10.same W12), V16, own_all0⟩⟩)
set_option maxRecDepth 65536 in
set_option maxHeartbeats 40000000 in
theorem c_se1 (l : Launch) {Z : State} {a0 : Array Value} {n0 : Nat} (hw : ∀ d ∈ tables_1, d.before a0 Z = true) (hEL : EW Z a0 own_EL) {zc : Int32} (hcs : Sta Z Z.heap "java/lang/String" "COMPACT_STRINGS" "Z" (.int zc)) (hcz : ¬ zc = 0) {fm : Value} (hfm : Sta Z Z.heap "jdk/internal/util/Preconditions" "SIOOBE_FORMATTER" "Ljava/util/function/BiFunction;" fm) (hfr : fm.isRef = true) {mo : Addr} (hmo : OwnMir Z "java/lang/Object" mo) {h : Heap} (hO : Old Z n0 h) (x : Addr) (c0 : Addr) (kc : ClassId) (d0 : Value) (E_x : Exa Z h x "java/lang/String") (g_x : n0 ≤ x) (F_v : Fld Z h x "java/lang/String" "value" "[B" .null) (F_c : Fld Z h x "java/lang/String" "coder" "B" (.int (0 : Int32))) (V_c : Arv Z h c0 kc .char (0 : Int32) [] d0) :
    Con [] false l Z own_EL n0 [x] (⟨"java/lang/String", "<init>", "([C)V"⟩ : MethodName) jdk_42_method_3_code 2 none ({ frames := 2, cells := 4, slots := 8, locals := 29 } : Room) #[(.ref x), (.ref c0)] h (fun v h' sf => ∃ (t : Addr) (kb : ClassId), v = none ∧ Keep h h' [x] ∧ Str Z h' x t kb ([] : List Int32)) := by
  refine Con.intro (Ls := #[.val (.ref x), .val (.ref c0)]) pn21 hEL hO (fun m => by first | rfl | (simp [entryFrame, mkF, argsToLocals, Value.category]; done)) fun C vm T hl X hs => ?_
  have X : On C ({ frames := 2, cells := 4, slots := 8, locals := 29 } : Room) "java/lang/String" jdk_42_method_3_code 2 none "<init>" false Z a0 own_EL n0 vm T h 0 0 := X
  have sf_x := hs x (List.mem_of_getElem? (i := 0) rfl)
  refine X.aload_n i21_0 rfl rfl ?_
  refine X.aload_n i21_1 rfl rfl ?_
  refine X.iconst i21_2 (z := (0 : Int32)) rfl ?_
  refine X.aload_n i21_3 rfl rfl ?_
  refine X.arraylength i21_4 V_c ?_
  refine X.aconst_null i21_5 ?_
  refine X.callI hl (argsL := [(.ref c0), (.int (0 : Int32)), (.int (0 : Int32)), .null]) (a := x) i21_6 (c_se4 l hw hEL hcs hcz hfm hfr hmo X.old x c0 E_x g_x F_v F_c) (hw _ wd_7) (hw _ wd_8) (hw _ wd_2) (hw _ wd_10) rfl (by decide) (sf_cons ⟨sf_x, (E_x).lt⟩ sf_nil) pd14 rfl rfl rfl (W := 0) rfl (by decide) (by decide) (k' := 4) rfl (n' := 8) rfl (by decide) (by decide) fun vm1 T1 h1 v1 X1 r1 Q1 => ?_
  obtain ⟨t_1, kb_1, rfl, q1_0, q1_1⟩ := Q1
  show Go _ _ _ _ _ _ _ T1 9 #[.val (.ref x), .val (.ref c0)] []
  exact X1.ret i21_9 rfl (by decide) (by decide) (fun sf hsf => ⟨t_1, kb_1, rfl, ((Keep.refl _ [x]).trans q1_0 (allS (Or.inl (List.mem_of_getElem? (i := 0) rfl)) all0)), q1_1⟩)
set_option maxRecDepth 65536 in
set_option maxHeartbeats 40000000 in
theorem c_can (l : Launch) {Z : State} {a0 : Array Value} {n0 : Nat} (hw : ∀ d ∈ tables_1, d.before a0 Z = true) (hEL : EW Z a0 own_EL) {zc : Int32} (hcs : Sta Z Z.heap "java/lang/String" "COMPACT_STRINGS" "Z" (.int zc)) (hcz : ¬ zc = 0) {fm : Value} (hfm : Sta Z Z.heap "jdk/internal/util/Preconditions" "SIOOBE_FORMATTER" "Ljava/util/function/BiFunction;" fm) (hfr : fm.isRef = true) {mo : Addr} (hmo : OwnMir Z "java/lang/Object" mo) {h : Heap} (hO : Old Z n0 h) (c : Int32) (lx : own_lat c) :
    Con [] false l Z own_EL n0 [] (⟨"java/lang/StringLatin1", "canEncode", "(C)Z"⟩ : MethodName) jdk_43_method_3_code 1 (some .boolean) ({ frames := 0, cells := 0, slots := 0, locals := 0 } : Room) #[(.int c)] h (fun v h' sf => v = some (.int (1 : Int32)) ∧ h = h') := by
  refine Con.intro (Ls := #[.val (.int c)]) pn22 hEL hO (fun m => by first | rfl | (simp [entryFrame, mkF, argsToLocals, Value.category]; done)) fun C vm T hl X hs => ?_
  have X : On C ({ frames := 0, cells := 0, slots := 0, locals := 0 } : Room) "java/lang/StringLatin1" jdk_43_method_3_code 1 (some .boolean) "canEncode" false Z a0 own_EL n0 vm T h 0 0 := X
  refine X.iload_n i22_0 rfl ?_
  refine X.sipush i22_1 (z := (255 : Int32)) rfl ?_
  refine X.icN i22_4 (XT.ii_gt_f lx.2) ?_
  refine X.iconst i22_7 (z := (1 : Int32)) rfl ?_
  refine X.goto i22_8 j8_4 ?_
  exact X.ireturn i22_12 (t := .boolean) rfl (by decide) rfl (by decide) (by decide) (fun sf hsf => ⟨rfl, rfl⟩)
set_option maxRecDepth 65536 in
set_option maxHeartbeats 40000000 in
theorem c_tob (l : Launch) {Z : State} {a0 : Array Value} {n0 : Nat} (hw : ∀ d ∈ tables_1, d.before a0 Z = true) (hEL : EW Z a0 own_EL) {zc : Int32} (hcs : Sta Z Z.heap "java/lang/String" "COMPACT_STRINGS" "Z" (.int zc)) (hcz : ¬ zc = 0) {fm : Value} (hfm : Sta Z Z.heap "jdk/internal/util/Preconditions" "SIOOBE_FORMATTER" "Ljava/util/function/BiFunction;" fm) (hfr : fm.isRef = true) {mo : Addr} (hmo : OwnMir Z "java/lang/Object" mo) {h : Heap} (hO : Old Z n0 h) (c : Int32)  :
    Con [] false l Z own_EL n0 [] (⟨"java/lang/StringLatin1", "toBytes", "(C)[B"⟩ : MethodName) jdk_43_method_46_code 1 (some (.array .byte)) ({ frames := 0, cells := 1, slots := 1, locals := 0 } : Room) #[(.int c)] h (fun v h' sf => ∃ (r : Addr) (kr : ClassId), v = some (.ref r) ∧ Ext h h' ∧ h.size ≤ r ∧ Arv Z h' r kr .byte (1 : Int32) [(.int (c.toInt8.toInt32))] (.int (0 : Int32))) := by
  refine Con.intro (Ls := #[.val (.int c)]) pn23 hEL hO (fun m => by first | rfl | (simp [entryFrame, mkF, argsToLocals, Value.category]; done)) fun C vm T hl X hs => ?_
  have X : On C ({ frames := 0, cells := 1, slots := 1, locals := 0 } : Room) "java/lang/StringLatin1" jdk_43_method_46_code 1 (some (.array .byte)) "toBytes" false Z a0 own_EL n0 vm T h 0 0 := X
  refine X.iconst i23_0 (z := (1 : Int32)) rfl ?_
  refine X.newarray i23_1 (ty := .byte) rfl (hw _ wd_19) (by decide) (cap := 1) (by decide) (by decide) (k' := 1) rfl (n' := 1) rfl (by decide) (by decide) fun T1 h1 a1 c1 X1 E1 z1 g1 V1 Sf1 => ?_
  have V1 : Arv Z h1 a1 c1 .byte (1 : Int32) [(.int (0 : Int32))] (.int (0 : Int32)) := V1.pad (pad_rep [] (.int (0 : Int32)) 1)
  refine X1.dup i23_3 rfl ?_
  refine X1.iconst i23_4 (z := (0 : Int32)) rfl ?_
  refine X1.iload_n i23_5 rfl ?_
  refine X1.i2b i23_6 (z := (c.toInt8.toInt32)) rfl ?_
  refine X1.bastore i23_7 V1 ⟨by decide, by decide⟩ (i := 0) rfl (Nat.le_of_ble_eq_true rfl) (y := (c.toInt8.toInt32)) (own_narB _) g1 Sf1 fun T2 h2 X2 W2 V2 => ?_
  have V2 : Arv Z h2 a1 c1 .byte (1 : Int32) [(.int (c.toInt8.toInt32))] (.int (0 : Int32)) := V2
  exact X2.areturn i23_8 rfl rfl rfl (by decide) (by decide) (fun sf hsf => ⟨a1, c1, rfl, (ext_wr E1 W2 (Nat.le_of_eq z1)), (Nat.le_of_eq z1), V2⟩)
set_option maxRecDepth 65536 in
set_option maxHeartbeats 40000000 in
theorem c_sbb (l : Launch) {Z : State} {a0 : Array Value} {n0 : Nat} (hw : ∀ d ∈ tables_1, d.before a0 Z = true) (hEL : EW Z a0 own_EL) {zc : Int32} (hcs : Sta Z Z.heap "java/lang/String" "COMPACT_STRINGS" "Z" (.int zc)) (hcz : ¬ zc = 0) {fm : Value} (hfm : Sta Z Z.heap "jdk/internal/util/Preconditions" "SIOOBE_FORMATTER" "Ljava/util/function/BiFunction;" fm) (hfr : fm.isRef = true) {mo : Addr} (hmo : OwnMir Z "java/lang/Object" mo) {h : Heap} (hO : Old Z n0 h) (x : Addr) (r : Addr) (E_x : Exa Z h x "java/lang/String") (g_x : n0 ≤ x) (F_xv : Fld Z h x "java/lang/String" "value" "[B" .null) (F_xc : Fld Z h x "java/lang/String" "coder" "B" (.int (0 : Int32))) :
    Con [] false l Z own_EL n0 [x] (⟨"java/lang/String", "<init>", "([BB)V"⟩ : MethodName) jdk_42_method_151_code 3 none ({ frames := 1, cells := 0, slots := 0, locals := 12 } : Room) #[(.ref x), (.ref r), (.int (0 : Int32))] h (fun v h' sf => v = none ∧ Keep h h' [x] ∧ Exa Z h' x "java/lang/String" ∧ Fld Z h' x "java/lang/String" "value" "[B" (.ref r) ∧ Fld Z h' x "java/lang/String" "coder" "B" (.int (0 : Int32))) := by
  refine Con.intro (Ls := #[.val (.ref x), .val (.ref r), .val (.int (0 : Int32))]) pn24 hEL hO (fun m => by first | rfl | (simp [entryFrame, mkF, argsToLocals, Value.category]; done)) fun C vm T hl X hs => ?_
  have X : On C ({ frames := 1, cells := 0, slots := 0, locals := 12 } : Room) "java/lang/String" jdk_42_method_151_code 3 none "<init>" false Z a0 own_EL n0 vm T h 0 0 := X
  have sf_x := hs x (List.mem_of_getElem? (i := 0) rfl)
  refine X.aload_n i24_0 rfl rfl ?_
  refine X.initO i24_1 (hw _ wd_11) (hw _ wd_12) (hw _ wd_13) rfl (by decide) (W := 0) rfl (by decide) fun T1 X1 => ?_
  refine X1.aload_n i24_4 rfl rfl ?_
  refine X1.aload_n i24_5 rfl rfl ?_
  refine X1.putfield i24_6 (hw _ wd_28) Via.refl F_xv E_x (Or.inr ⟨(hw _ wd_29), rfl, rfl⟩) (hw _ wd_1) (ty := (.array .byte)) (by decide) rfl rfl g_x sf_x fun T2 h2 X2 W2 => ?_
  refine X2.aload_n i24_9 rfl rfl ?_
  refine X2.iload_n i24_10 rfl ?_
  have F3 := (F_xc.other W2 (Or.inr (slot_ne (Or.inr (hw _ wd_27)) (Or.inr (hw _ wd_29)) (by decide) (t := .byte) (t' := (.array .byte)) (by decide) (by decide))))
  have E4 := (E_x.wr W2)
  have Sf6 := ((CHr.wr W2 sf_x X1.chv)).safe (F_xc).lt sf_x
  refine X2.putfield i24_11 (hw _ wd_26) Via.refl F3 E4 (Or.inr ⟨(hw _ wd_27), rfl, rfl⟩) (hw _ wd_1) (ty := .byte) (by decide) rfl rfl g_x Sf6 fun T5 h5 X5 W5 => ?_
  have E7 := (E4.wr W5)
  have F8 := ((F_xv.same W2).other W5 (Or.inr (slot_ne (Or.inr (hw _ wd_29)) (Or.inr (hw _ wd_27)) (by decide) (t := (.array .byte)) (t' := .byte) (by decide) (by decide))))
  exact X5.ret i24_14 rfl (by decide) (by decide) (fun sf hsf => ⟨rfl, (((Keep.refl _ [x]).wr W2 (Or.inl (List.mem_of_getElem? (i := 0) rfl))).wr W5 (Or.inl (List.mem_of_getElem? (i := 0) rfl))), E7, F8, (F3.same W5)⟩)
set_option maxRecDepth 65536 in
set_option maxHeartbeats 40000000 in
theorem c_vof (l : Launch) {Z : State} {a0 : Array Value} {n0 : Nat} (hw : ∀ d ∈ tables_1, d.before a0 Z = true) (hEL : EW Z a0 own_EL) {zc : Int32} (hcs : Sta Z Z.heap "java/lang/String" "COMPACT_STRINGS" "Z" (.int zc)) (hcz : ¬ zc = 0) {fm : Value} (hfm : Sta Z Z.heap "jdk/internal/util/Preconditions" "SIOOBE_FORMATTER" "Ljava/util/function/BiFunction;" fm) (hfr : fm.isRef = true) {mo : Addr} (hmo : OwnMir Z "java/lang/Object" mo) {h : Heap} (hO : Old Z n0 h) (c : Int32) (lx : own_lat c) :
    Con [] false l Z own_EL n0 [] (⟨"java/lang/String", "valueOf", "(C)Ljava/lang/String;"⟩ : MethodName) jdk_42_method_139_code 1 (some (.object "java/lang/String")) ({ frames := 2, cells := 2, slots := 5, locals := 27 } : Room) #[(.int c)] h (fun v h' sf => ∃ (x : Addr) (t : Addr) (kt : ClassId), v = some (.ref x) ∧ Ext h h' ∧ h.size ≤ x ∧ Str Z h' x t kt [c]) := by
  refine Con.intro (Ls := #[.val (.int c)]) pn25 hEL hO (fun m => by first | rfl | (simp [entryFrame, mkF, argsToLocals, Value.category]; done)) fun C vm T hl X hs => ?_
  have X : On C ({ frames := 2, cells := 2, slots := 5, locals := 27 } : Room) "java/lang/String" jdk_42_method_139_code 1 (some (.object "java/lang/String")) "valueOf" false Z a0 own_EL n0 vm T h 0 0 := X
  refine X.getstatic i25_0 (hw _ wd_14) Via.refl (hcs.ext X.ext0) fun T1 X1 => ?_
  refine X1.ifN i25_3 (XT.i0_eq_f hcz) ?_
  refine X1.iload_n i25_6 rfl ?_
  refine X1.callS hl (argsL := [(.int c)]) i25_7 (c_can l hw hEL hcs hcz hfm hfr hmo X1.old c lx) (hw _ wd_247) (hw _ wd_248) (hw _ wd_234) (hw _ wd_249) (by decide) sf_nil pd15 rfl rfl rfl (W := 0) rfl (by decide) (by decide) (k' := 0) rfl (n' := 0) rfl (by decide) (by decide) fun vm2 T2 h2 v2 X2 r2 Q2 => ?_
  obtain ⟨rfl, rfl⟩ := Q2
  show Go _ _ _ _ _ _ _ T2 10 #[.val (.int c)] [(.int (1 : Int32))]
  refine X2.ifN i25_10 (by decide) ?_
  refine X2.new i25_13 (hw _ wd_250) (hw _ wd_1) (hw _ wd_2) (k' := 1) rfl (n' := 4) rfl (by decide) (by decide) fun T3 h3 a3 X3 E3 z3 g3 A3 D3 U3 Sf3 => ?_
  refine X3.dup i25_16 rfl ?_
  refine X3.iload_n i25_17 rfl ?_
  refine X3.callS hl (argsL := [(.int c)]) i25_18 (c_tob l hw hEL hcs hcz hfm hfr hmo X3.old c ) (hw _ wd_251) (hw _ wd_252) (hw _ wd_234) (hw _ wd_253) (by decide) sf_nil pd16 rfl rfl rfl (W := 2) rfl (by decide) (by decide) (k' := 2) rfl (n' := 5) rfl (by decide) (by decide) fun vm4 T4 h4 v4 X4 r4 Q4 => ?_
  obtain ⟨r_4, kr_4, rfl, q4_0, q4_1, q4_2⟩ := Q4
  have g5 := Nat.le_trans X3.n0le q4_1
  show Go _ _ _ _ _ _ _ T4 21 #[.val (.int c)] [(.ref r_4), (.ref a3), (.ref a3)]
  refine X4.iconst i25_21 (z := (0 : Int32)) rfl ?_
  have E6 := (A3.ext q4_0)
  have F7 : Fld Z h3 a3 "java/lang/String" "value" "[B" .null := D3 (Or.inr (hw _ wd_29)) (ty := (.array .byte)) (by decide)
  have F8 := (F7.ext q4_0)
  have F9 : Fld Z h3 a3 "java/lang/String" "coder" "B" (.int (0 : Int32)) := D3 (Or.inr (hw _ wd_27)) (ty := .byte) (by decide)
  have F10 := (F9.ext q4_0)
  have Sf12 := (r4).safe (A3).lt Sf3
  refine X4.callI hl (argsL := [(.ref r_4), (.int (0 : Int32))]) (a := a3) i25_22 (c_sbb l hw hEL hcs hcz hfm hfr hmo X4.old a3 r_4 E6 g3 F8 F10) (hw _ wd_254) (hw _ wd_255) (hw _ wd_2) (hw _ wd_256) rfl (by decide) (sf_cons ⟨Sf12, (E6).lt⟩ sf_nil) pd17 rfl rfl rfl (W := 1) rfl (by decide) (by decide) (k' := 2) rfl (n' := 5) rfl (by decide) (by decide) fun vm11 T11 h11 v11 X11 r11 Q11 => ?_
  obtain ⟨rfl, q11_0, q11_1, q11_2, q11_3⟩ := Q11
  show Go _ _ _ _ _ _ _ T11 25 #[.val (.int c)] [(.ref a3)]
  have V13 := (q4_2.keep q11_0 (ninS (Nat.ne_of_gt (Nat.lt_of_lt_of_le (A3).lt q4_1)) nin0))
  exact X11.areturn i25_25 rfl rfl rfl (by decide) (by decide) (fun sf hsf => ⟨a3, r_4, kr_4, rfl, (ext_keep (ext_trans E3 q4_0) q11_0 (allS (Nat.le_trans (Nat.le_refl _) (Nat.le_of_eq z3)) all0)), (Nat.le_trans (Nat.le_refl _) (Nat.le_of_eq z3)), ⟨q11_1, q11_2, q11_3, V13, own_allS lx own_all0⟩⟩)
set_option maxRecDepth 65536 in
set_option maxHeartbeats 40000000 in
theorem c_pw7 (l : Launch) {Z : State} {a0 : Array Value} {n0 : Nat} (hw : ∀ d ∈ tables_1, d.before a0 Z = true) (hEL : EW Z a0 own_EL) {zc : Int32} (hcs : Sta Z Z.heap "java/lang/String" "COMPACT_STRINGS" "Z" (.int zc)) (hcz : ¬ zc = 0) {fm : Value} (hfm : Sta Z Z.heap "jdk/internal/util/Preconditions" "SIOOBE_FORMATTER" "Ljava/util/function/BiFunction;" fm) (hfr : fm.isRef = true) {mo : Addr} (hmo : OwnMir Z "java/lang/Object" mo) {h : Heap} (hO : Old Z n0 h) (p : Addr) (nm : Addr) (ac : Addr) (lm : Addr) (E_p : Exa Z h p "com/example/likeness/likeness/property/PropertyWriter") (g_p : n0 ≤ p) (F_0 : Fld Z h p "com/example/likeness/likeness/property/PropertyWriter" "name" "Ljava/lang/String;" .null) (F_1 : Fld Z h p "com/example/likeness/likeness/property/PropertyWriter" "type" "Ljava/lang/reflect/Type;" .null) (F_2 : Fld Z h p "com/example/likeness/likeness/property/PropertyWriter" "accessor" "Ljava/lang/String;" .null) (F_3 : Fld Z h p "com/example/likeness/likeness/property/PropertyWriter" "access" "Lcom/example/likeness/likeness/property/PropertyWriter$Access;" .null) (F_4 : Fld Z h p "com/example/likeness/likeness/property/PropertyWriter" "fillsHeld" "Z" (.int (0 : Int32))) (F_5 : Fld Z h p "com/example/likeness/likeness/property/PropertyWriter" "member" "Ljava/lang/invoke/MethodHandle;" .null) (F_6 : Fld Z h p "com/example/likeness/likeness/property/PropertyWriter" "handle" "Ljava/lang/invoke/MethodHandle;" .null) :
    Con [] false l Z own_EL n0 [p] (⟨"com/example/likeness/likeness/property/PropertyWriter", "<init>", "(Ljava/lang/String;Ljava/lang/reflect/Type;Ljava/lang/String;Lcom/example/likeness/likeness/property/PropertyWriter$Access;ZLjava/lang/invoke/MethodHandle;Ljava/lang/invoke/MethodHandle;)V"⟩ : MethodName) prog_52_method_3_code 8 none ({ frames := 1, cells := 0, slots := 0, locals := 12 } : Room) #[(.ref p), (.ref nm), (.ref mo), (.ref ac), (.ref lm), (.int (0 : Int32)), .null, .null] h (fun v h' sf => v = none ∧ Keep h h' [p] ∧ Fld Z h' p "com/example/likeness/likeness/property/PropertyWriter" "name" "Ljava/lang/String;" (.ref nm) ∧ Fld Z h' p "com/example/likeness/likeness/property/PropertyWriter" "type" "Ljava/lang/reflect/Type;" (.ref mo) ∧ Fld Z h' p "com/example/likeness/likeness/property/PropertyWriter" "accessor" "Ljava/lang/String;" (.ref ac) ∧ Fld Z h' p "com/example/likeness/likeness/property/PropertyWriter" "access" "Lcom/example/likeness/likeness/property/PropertyWriter$Access;" (.ref lm) ∧ Fld Z h' p "com/example/likeness/likeness/property/PropertyWriter" "fillsHeld" "Z" (.int (0 : Int32)) ∧ Fld Z h' p "com/example/likeness/likeness/property/PropertyWriter" "member" "Ljava/lang/invoke/MethodHandle;" .null ∧ Fld Z h' p "com/example/likeness/likeness/property/PropertyWriter" "handle" "Ljava/lang/invoke/MethodHandle;" .null) := by
  refine Con.intro (Ls := #[.val (.ref p), .val (.ref nm), .val (.ref mo), .val (.ref ac), .val (.ref lm), .val (.int (0 : Int32)), .val .null, .val .null]) pn26 hEL hO (fun m => by first | rfl | (simp [entryFrame, mkF, argsToLocals, Value.category]; done)) fun C vm T hl X hs => ?_
  have X : On C ({ frames := 1, cells := 0, slots := 0, locals := 12 } : Room) "com/example/likeness/likeness/property/PropertyWriter" prog_52_method_3_code 8 none "<init>" false Z a0 own_EL n0 vm T h 0 0 := X
  have sf_p := hs p (List.mem_of_getElem? (i := 0) rfl)
  refine X.aload_n i26_0 rfl rfl ?_
  refine X.initO i26_1 (hw _ wd_166) (hw _ wd_12) (hw _ wd_13) rfl (by decide) (W := 0) rfl (by decide) fun T1 X1 => ?_
  refine X1.aload_n i26_4 rfl rfl ?_
  refine X1.aload_n i26_5 rfl rfl ?_
  refine X1.putfield i26_6 (hw _ wd_167) Via.refl F_0 E_p (Or.inr ⟨(hw _ wd_168), rfl, rfl⟩) (hw _ wd_35) (ty := (.object "java/lang/String")) (by decide) rfl rfl g_p sf_p fun T2 h2 X2 W2 => ?_
  refine X2.aload_n i26_9 rfl rfl ?_
  refine X2.aload_n i26_10 rfl rfl ?_
  have F3 := (F_1.other W2 (Or.inr (slot_ne (Or.inr (hw _ wd_170)) (Or.inr (hw _ wd_168)) (by decide) (t := (.object "java/lang/reflect/Type")) (t' := (.object "java/lang/String")) (by decide) (by decide))))
  have E4 := (E_p.wr W2)
  have Sf6 := ((CHr.wr W2 sf_p X1.chv)).safe (F_1).lt sf_p
  refine X2.putfield i26_11 (hw _ wd_169) Via.refl F3 E4 (Or.inr ⟨(hw _ wd_170), rfl, rfl⟩) (hw _ wd_35) (ty := (.object "java/lang/reflect/Type")) (by decide) rfl rfl g_p Sf6 fun T5 h5 X5 W5 => ?_
  refine X5.aload_n i26_14 rfl rfl ?_
  refine X5.aload_n i26_15 rfl rfl ?_
  have F7 := ((F_2.other W2 (Or.inr (slot_ne (Or.inr (hw _ wd_172)) (Or.inr (hw _ wd_168)) (by decide) (t := (.object "java/lang/String")) (t' := (.object "java/lang/String")) (by decide) (by decide)))).other W5 (Or.inr (slot_ne (Or.inr (hw _ wd_172)) (Or.inr (hw _ wd_170)) (by decide) (t := (.object "java/lang/String")) (t' := (.object "java/lang/reflect/Type")) (by decide) (by decide))))
  have E8 := (E4.wr W5)
  have Sf10 := ((CHr.wr W5 Sf6 X2.chv)).safe (E4).lt Sf6
  refine X5.putfield i26_16 (hw _ wd_171) Via.refl F7 E8 (Or.inr ⟨(hw _ wd_172), rfl, rfl⟩) (hw _ wd_35) (ty := (.object "java/lang/String")) (by decide) rfl rfl g_p Sf10 fun T9 h9 X9 W9 => ?_
  refine X9.aload_n i26_19 rfl rfl ?_
  refine X9.aload i26_20 rfl rfl ?_
  have F11 := (((F_3.other W2 (Or.inr (slot_ne (Or.inr (hw _ wd_174)) (Or.inr (hw _ wd_168)) (by decide) (t := (.object "com/example/likeness/likeness/property/PropertyWriter$Access")) (t' := (.object "java/lang/String")) (by decide) (by decide)))).other W5 (Or.inr (slot_ne (Or.inr (hw _ wd_174)) (Or.inr (hw _ wd_170)) (by decide) (t := (.object "com/example/likeness/likeness/property/PropertyWriter$Access")) (t' := (.object "java/lang/reflect/Type")) (by decide) (by decide)))).other W9 (Or.inr (slot_ne (Or.inr (hw _ wd_174)) (Or.inr (hw _ wd_172)) (by decide) (t := (.object "com/example/likeness/likeness/property/PropertyWriter$Access")) (t' := (.object "java/lang/String")) (by decide) (by decide))))
  have E12 := (E8.wr W9)
  have Sf14 := ((CHr.wr W9 Sf10 X5.chv)).safe (E8).lt Sf10
  refine X9.putfield i26_22 (hw _ wd_173) Via.refl F11 E12 (Or.inr ⟨(hw _ wd_174), rfl, rfl⟩) (hw _ wd_35) (ty := (.object "com/example/likeness/likeness/property/PropertyWriter$Access")) (by decide) rfl rfl g_p Sf14 fun T13 h13 X13 W13 => ?_
  refine X13.aload_n i26_25 rfl rfl ?_
  refine X13.iload i26_26 rfl ?_
  have F15 := ((((F_4.other W2 (Or.inr (slot_ne (Or.inr (hw _ wd_176)) (Or.inr (hw _ wd_168)) (by decide) (t := .boolean) (t' := (.object "java/lang/String")) (by decide) (by decide)))).other W5 (Or.inr (slot_ne (Or.inr (hw _ wd_176)) (Or.inr (hw _ wd_170)) (by decide) (t := .boolean) (t' := (.object "java/lang/reflect/Type")) (by decide) (by decide)))).other W9 (Or.inr (slot_ne (Or.inr (hw _ wd_176)) (Or.inr (hw _ wd_172)) (by decide) (t := .boolean) (t' := (.object "java/lang/String")) (by decide) (by decide)))).other W13 (Or.inr (slot_ne (Or.inr (hw _ wd_176)) (Or.inr (hw _ wd_174)) (by decide) (t := .boolean) (t' := (.object "com/example/likeness/likeness/property/PropertyWriter$Access")) (by decide) (by decide))))
  have E16 := (E12.wr W13)
  have Sf18 := ((CHr.wr W13 Sf14 X9.chv)).safe (E12).lt Sf14
  refine X13.putfield i26_28 (hw _ wd_175) Via.refl F15 E16 (Or.inr ⟨(hw _ wd_176), rfl, rfl⟩) (hw _ wd_35) (ty := .boolean) (by decide) rfl rfl g_p Sf18 fun T17 h17 X17 W17 => ?_
  refine X17.aload_n i26_31 rfl rfl ?_
  refine X17.aload i26_32 rfl rfl ?_
  have F19 := (((((F_5.other W2 (Or.inr (slot_ne (Or.inr (hw _ wd_178)) (Or.inr (hw _ wd_168)) (by decide) (t := (.object "java/lang/invoke/MethodHandle")) (t' := (.object "java/lang/String")) (by decide) (by decide)))).other W5 (Or.inr (slot_ne (Or.inr (hw _ wd_178)) (Or.inr (hw _ wd_170)) (by decide) (t := (.object "java/lang/invoke/MethodHandle")) (t' := (.object "java/lang/reflect/Type")) (by decide) (by decide)))).other W9 (Or.inr (slot_ne (Or.inr (hw _ wd_178)) (Or.inr (hw _ wd_172)) (by decide) (t := (.object "java/lang/invoke/MethodHandle")) (t' := (.object "java/lang/String")) (by decide) (by decide)))).other W13 (Or.inr (slot_ne (Or.inr (hw _ wd_178)) (Or.inr (hw _ wd_174)) (by decide) (t := (.object "java/lang/invoke/MethodHandle")) (t' := (.object "com/example/likeness/likeness/property/PropertyWriter$Access")) (by decide) (by decide)))).other W17 (Or.inr (slot_ne (Or.inr (hw _ wd_178)) (Or.inr (hw _ wd_176)) (by decide) (t := (.object "java/lang/invoke/MethodHandle")) (t' := .boolean) (by decide) (by decide))))
  have E20 := (E16.wr W17)
  have Sf22 := ((CHr.wr W17 Sf18 X13.chv)).safe (E16).lt Sf18
  refine X17.putfield i26_34 (hw _ wd_177) Via.refl F19 E20 (Or.inr ⟨(hw _ wd_178), rfl, rfl⟩) (hw _ wd_35) (ty := (.object "java/lang/invoke/MethodHandle")) (by decide) rfl rfl g_p Sf22 fun T21 h21 X21 W21 => ?_
  refine X21.aload_n i26_37 rfl rfl ?_
  refine X21.aload i26_38 rfl rfl ?_
  have F23 := ((((((F_6.other W2 (Or.inr (slot_ne (Or.inr (hw _ wd_180)) (Or.inr (hw _ wd_168)) (by decide) (t := (.object "java/lang/invoke/MethodHandle")) (t' := (.object "java/lang/String")) (by decide) (by decide)))).other W5 (Or.inr (slot_ne (Or.inr (hw _ wd_180)) (Or.inr (hw _ wd_170)) (by decide) (t := (.object "java/lang/invoke/MethodHandle")) (t' := (.object "java/lang/reflect/Type")) (by decide) (by decide)))).other W9 (Or.inr (slot_ne (Or.inr (hw _ wd_180)) (Or.inr (hw _ wd_172)) (by decide) (t := (.object "java/lang/invoke/MethodHandle")) (t' := (.object "java/lang/String")) (by decide) (by decide)))).other W13 (Or.inr (slot_ne (Or.inr (hw _ wd_180)) (Or.inr (hw _ wd_174)) (by decide) (t := (.object "java/lang/invoke/MethodHandle")) (t' := (.object "com/example/likeness/likeness/property/PropertyWriter$Access")) (by decide) (by decide)))).other W17 (Or.inr (slot_ne (Or.inr (hw _ wd_180)) (Or.inr (hw _ wd_176)) (by decide) (t := (.object "java/lang/invoke/MethodHandle")) (t' := .boolean) (by decide) (by decide)))).other W21 (Or.inr (slot_ne (Or.inr (hw _ wd_180)) (Or.inr (hw _ wd_178)) (by decide) (t := (.object "java/lang/invoke/MethodHandle")) (t' := (.object "java/lang/invoke/MethodHandle")) (by decide) (by decide))))
  have E24 := (E20.wr W21)
  have Sf26 := ((CHr.wr W21 Sf22 X17.chv)).safe (E20).lt Sf22
  refine X21.putfield i26_40 (hw _ wd_179) Via.refl F23 E24 (Or.inr ⟨(hw _ wd_180), rfl, rfl⟩) (hw _ wd_35) (ty := (.object "java/lang/invoke/MethodHandle")) (by decide) rfl rfl g_p Sf26 fun T25 h25 X25 W25 => ?_
  have F27 := (((((((F_0.same W2).other W5 (Or.inr (slot_ne (Or.inr (hw _ wd_168)) (Or.inr (hw _ wd_170)) (by decide) (t := (.object "java/lang/String")) (t' := (.object "java/lang/reflect/Type")) (by decide) (by decide)))).other W9 (Or.inr (slot_ne (Or.inr (hw _ wd_168)) (Or.inr (hw _ wd_172)) (by decide) (t := (.object "java/lang/String")) (t' := (.object "java/lang/String")) (by decide) (by decide)))).other W13 (Or.inr (slot_ne (Or.inr (hw _ wd_168)) (Or.inr (hw _ wd_174)) (by decide) (t := (.object "java/lang/String")) (t' := (.object "com/example/likeness/likeness/property/PropertyWriter$Access")) (by decide) (by decide)))).other W17 (Or.inr (slot_ne (Or.inr (hw _ wd_168)) (Or.inr (hw _ wd_176)) (by decide) (t := (.object "java/lang/String")) (t' := .boolean) (by decide) (by decide)))).other W21 (Or.inr (slot_ne (Or.inr (hw _ wd_168)) (Or.inr (hw _ wd_178)) (by decide) (t := (.object "java/lang/String")) (t' := (.object "java/lang/invoke/MethodHandle")) (by decide) (by decide)))).other W25 (Or.inr (slot_ne (Or.inr (hw _ wd_168)) (Or.inr (hw _ wd_180)) (by decide) (t := (.object "java/lang/String")) (t' := (.object "java/lang/invoke/MethodHandle")) (by decide) (by decide))))
  have F28 := ((((((F3.same W5).other W9 (Or.inr (slot_ne (Or.inr (hw _ wd_170)) (Or.inr (hw _ wd_172)) (by decide) (t := (.object "java/lang/reflect/Type")) (t' := (.object "java/lang/String")) (by decide) (by decide)))).other W13 (Or.inr (slot_ne (Or.inr (hw _ wd_170)) (Or.inr (hw _ wd_174)) (by decide) (t := (.object "java/lang/reflect/Type")) (t' := (.object "com/example/likeness/likeness/property/PropertyWriter$Access")) (by decide) (by decide)))).other W17 (Or.inr (slot_ne (Or.inr (hw _ wd_170)) (Or.inr (hw _ wd_176)) (by decide) (t := (.object "java/lang/reflect/Type")) (t' := .boolean) (by decide) (by decide)))).other W21 (Or.inr (slot_ne (Or.inr (hw _ wd_170)) (Or.inr (hw _ wd_178)) (by decide) (t := (.object "java/lang/reflect/Type")) (t' := (.object "java/lang/invoke/MethodHandle")) (by decide) (by decide)))).other W25 (Or.inr (slot_ne (Or.inr (hw _ wd_170)) (Or.inr (hw _ wd_180)) (by decide) (t := (.object "java/lang/reflect/Type")) (t' := (.object "java/lang/invoke/MethodHandle")) (by decide) (by decide))))
  have F29 := (((((F7.same W9).other W13 (Or.inr (slot_ne (Or.inr (hw _ wd_172)) (Or.inr (hw _ wd_174)) (by decide) (t := (.object "java/lang/String")) (t' := (.object "com/example/likeness/likeness/property/PropertyWriter$Access")) (by decide) (by decide)))).other W17 (Or.inr (slot_ne (Or.inr (hw _ wd_172)) (Or.inr (hw _ wd_176)) (by decide) (t := (.object "java/lang/String")) (t' := .boolean) (by decide) (by decide)))).other W21 (Or.inr (slot_ne (Or.inr (hw _ wd_172)) (Or.inr (hw _ wd_178)) (by decide) (t := (.object "java/lang/String")) (t' := (.object "java/lang/invoke/MethodHandle")) (by decide) (by decide)))).other W25 (Or.inr (slot_ne (Or.inr (hw _ wd_172)) (Or.inr (hw _ wd_180)) (by decide) (t := (.object "java/lang/String")) (t' := (.object "java/lang/invoke/MethodHandle")) (by decide) (by decide))))
  have F30 := ((((F11.same W13).other W17 (Or.inr (slot_ne (Or.inr (hw _ wd_174)) (Or.inr (hw _ wd_176)) (by decide) (t := (.object "com/example/likeness/likeness/property/PropertyWriter$Access")) (t' := .boolean) (by decide) (by decide)))).other W21 (Or.inr (slot_ne (Or.inr (hw _ wd_174)) (Or.inr (hw _ wd_178)) (by decide) (t := (.object "com/example/likeness/likeness/property/PropertyWriter$Access")) (t' := (.object "java/lang/invoke/MethodHandle")) (by decide) (by decide)))).other W25 (Or.inr (slot_ne (Or.inr (hw _ wd_174)) (Or.inr (hw _ wd_180)) (by decide) (t := (.object "com/example/likeness/likeness/property/PropertyWriter$Access")) (t' := (.object "java/lang/invoke/MethodHandle")) (by decide) (by decide))))
  have F31 := (((F15.same W17).other W21 (Or.inr (slot_ne (Or.inr (hw _ wd_176)) (Or.inr (hw _ wd_178)) (by decide) (t := .boolean) (t' := (.object "java/lang/invoke/MethodHandle")) (by decide) (by decide)))).other W25 (Or.inr (slot_ne (Or.inr (hw _ wd_176)) (Or.inr (hw _ wd_180)) (by decide) (t := .boolean) (t' := (.object "java/lang/invoke/MethodHandle")) (by decide) (by decide))))
  have F32 := ((F19.same W21).other W25 (Or.inr (slot_ne (Or.inr (hw _ wd_178)) (Or.inr (hw _ wd_180)) (by decide) (t := (.object "java/lang/invoke/MethodHandle")) (t' := (.object "java/lang/invoke/MethodHandle")) (by decide) (by decide))))
  exact X25.ret i26_43 rfl (by decide) (by decide) (fun sf hsf => ⟨rfl, ((((((((Keep.refl _ [p]).wr W2 (Or.inl (List.mem_of_getElem? (i := 0) rfl))).wr W5 (Or.inl (List.mem_of_getElem? (i := 0) rfl))).wr W9 (Or.inl (List.mem_of_getElem? (i := 0) rfl))).wr W13 (Or.inl (List.mem_of_getElem? (i := 0) rfl))).wr W17 (Or.inl (List.mem_of_getElem? (i := 0) rfl))).wr W21 (Or.inl (List.mem_of_getElem? (i := 0) rfl))).wr W25 (Or.inl (List.mem_of_getElem? (i := 0) rfl))), F27, F28, F29, F30, F31, F32, (F23.same W25)⟩)
set_option maxRecDepth 65536 in
set_option maxHeartbeats 40000000 in
theorem c_pw5 (l : Launch) {Z : State} {a0 : Array Value} {n0 : Nat} (hw : ∀ d ∈ tables_1, d.before a0 Z = true) (hEL : EW Z a0 own_EL) {zc : Int32} (hcs : Sta Z Z.heap "java/lang/String" "COMPACT_STRINGS" "Z" (.int zc)) (hcz : ¬ zc = 0) {fm : Value} (hfm : Sta Z Z.heap "jdk/internal/util/Preconditions" "SIOOBE_FORMATTER" "Ljava/util/function/BiFunction;" fm) (hfr : fm.isRef = true) {mo : Addr} (hmo : OwnMir Z "java/lang/Object" mo) {h : Heap} (hO : Old Z n0 h) (p : Addr) (nm : Addr) (ac : Addr) (lm : Addr) (E_p : Exa Z h p "com/example/likeness/likeness/property/PropertyWriter") (g_p : n0 ≤ p) (F_0 : Fld Z h p "com/example/likeness/likeness/property/PropertyWriter" "name" "Ljava/lang/String;" .null) (F_1 : Fld Z h p "com/example/likeness/likeness/property/PropertyWriter" "type" "Ljava/lang/reflect/Type;" .null) (F_2 : Fld Z h p "com/example/likeness/likeness/property/PropertyWriter" "accessor" "Ljava/lang/String;" .null) (F_3 : Fld Z h p "com/example/likeness/likeness/property/PropertyWriter" "access" "Lcom/example/likeness/likeness/property/PropertyWriter$Access;" .null) (F_4 : Fld Z h p "com/example/likeness/likeness/property/PropertyWriter" "fillsHeld" "Z" (.int (0 : Int32))) (F_5 : Fld Z h p "com/example/likeness/likeness/property/PropertyWriter" "member" "Ljava/lang/invoke/MethodHandle;" .null) (F_6 : Fld Z h p "com/example/likeness/likeness/property/PropertyWriter" "handle" "Ljava/lang/invoke/MethodHandle;" .null) :
    Con [] false l Z own_EL n0 [p] (⟨"com/example/likeness/likeness/property/PropertyWriter", "<init>", "(Ljava/lang/String;Ljava/lang/reflect/Type;Ljava/lang/String;Lcom/example/likeness/likeness/property/PropertyWriter$Access;Z)V"⟩ : MethodName) prog_52_method_2_code 6 none ({ frames := 2, cells := 0, slots := 0, locals := 31 } : Room) #[(.ref p), (.ref nm), (.ref mo), (.ref ac), (.ref lm), (.int (0 : Int32))] h (fun v h' sf => v = none ∧ Keep h h' [p] ∧ Fld Z h' p "com/example/likeness/likeness/property/PropertyWriter" "name" "Ljava/lang/String;" (.ref nm) ∧ Fld Z h' p "com/example/likeness/likeness/property/PropertyWriter" "type" "Ljava/lang/reflect/Type;" (.ref mo) ∧ Fld Z h' p "com/example/likeness/likeness/property/PropertyWriter" "accessor" "Ljava/lang/String;" (.ref ac) ∧ Fld Z h' p "com/example/likeness/likeness/property/PropertyWriter" "access" "Lcom/example/likeness/likeness/property/PropertyWriter$Access;" (.ref lm) ∧ Fld Z h' p "com/example/likeness/likeness/property/PropertyWriter" "fillsHeld" "Z" (.int (0 : Int32)) ∧ Fld Z h' p "com/example/likeness/likeness/property/PropertyWriter" "member" "Ljava/lang/invoke/MethodHandle;" .null ∧ Fld Z h' p "com/example/likeness/likeness/property/PropertyWriter" "handle" "Ljava/lang/invoke/MethodHandle;" .null) := by
  refine Con.intro (Ls := #[.val (.ref p), .val (.ref nm), .val (.ref mo), .val (.ref ac), .val (.ref lm), .val (.int (0 : Int32))]) pn27 hEL hO (fun m => by first | rfl | (simp [entryFrame, mkF, argsToLocals, Value.category]; done)) fun C vm T hl X hs => ?_
  have X : On C ({ frames := 2, cells := 0, slots := 0, locals := 31 } : Room) "com/example/likeness/likeness/property/PropertyWriter" prog_52_method_2_code 6 none "<init>" false Z a0 own_EL n0 vm T h 0 0 := X
  have sf_p := hs p (List.mem_of_getElem? (i := 0) rfl)
  refine X.aload_n i27_0 rfl rfl ?_
  refine X.aload_n i27_1 rfl rfl ?_
  refine X.aload_n i27_2 rfl rfl ?_
  refine X.aload_n i27_3 rfl rfl ?_
  refine X.aload i27_4 rfl rfl ?_
  refine X.iload i27_6 rfl ?_
  refine X.aconst_null i27_8 ?_
  refine X.aconst_null i27_9 ?_
  refine X.callI hl (argsL := [(.ref nm), (.ref mo), (.ref ac), (.ref lm), (.int (0 : Int32)), .null, .null]) (a := p) i27_10 (c_pw7 l hw hEL hcs hcz hfm hfr hmo X.old p nm ac lm E_p g_p F_0 F_1 F_2 F_3 F_4 F_5 F_6) (hw _ wd_163) (hw _ wd_164) (hw _ wd_36) (hw _ wd_165) rfl (by decide) (sf_cons ⟨sf_p, (E_p).lt⟩ sf_nil) pd18 rfl rfl rfl (W := 0) rfl (by decide) (by decide) (k' := 0) rfl (n' := 0) rfl (by decide) (by decide) fun vm1 T1 h1 v1 X1 r1 Q1 => ?_
  obtain ⟨rfl, q1_0, q1_1, q1_2, q1_3, q1_4, q1_5, q1_6, q1_7⟩ := Q1
  show Go _ _ _ _ _ _ _ T1 13 #[.val (.ref p), .val (.ref nm), .val (.ref mo), .val (.ref ac), .val (.ref lm), .val (.int (0 : Int32))] []
  exact X1.ret i27_13 rfl (by decide) (by decide) (fun sf hsf => ⟨rfl, ((Keep.refl _ [p]).trans q1_0 (allS (Or.inl (List.mem_of_getElem? (i := 0) rfl)) all0)), q1_1, q1_2, q1_3, q1_4, q1_5, q1_6, q1_7⟩)
set_option maxRecDepth 65536 in
set_option maxHeartbeats 40000000 in
theorem c_pw4 (l : Launch) {Z : State} {a0 : Array Value} {n0 : Nat} (hw : ∀ d ∈ tables_1, d.before a0 Z = true) (hEL : EW Z a0 own_EL) {zc : Int32} (hcs : Sta Z Z.heap "java/lang/String" "COMPACT_STRINGS" "Z" (.int zc)) (hcz : ¬ zc = 0) {fm : Value} (hfm : Sta Z Z.heap "jdk/internal/util/Preconditions" "SIOOBE_FORMATTER" "Ljava/util/function/BiFunction;" fm) (hfr : fm.isRef = true) {mo : Addr} (hmo : OwnMir Z "java/lang/Object" mo) {h : Heap} (hO : Old Z n0 h) (p : Addr) (nm : Addr) (ac : Addr) (lm : Addr) (E_p : Exa Z h p "com/example/likeness/likeness/property/PropertyWriter") (g_p : n0 ≤ p) (F_0 : Fld Z h p "com/example/likeness/likeness/property/PropertyWriter" "name" "Ljava/lang/String;" .null) (F_1 : Fld Z h p "com/example/likeness/likeness/property/PropertyWriter" "type" "Ljava/lang/reflect/Type;" .null) (F_2 : Fld Z h p "com/example/likeness/likeness/property/PropertyWriter" "accessor" "Ljava/lang/String;" .null) (F_3 : Fld Z h p "com/example/likeness/likeness/property/PropertyWriter" "access" "Lcom/example/likeness/likeness/property/PropertyWriter$Access;" .null) (F_4 : Fld Z h p "com/example/likeness/likeness/property/PropertyWriter" "fillsHeld" "Z" (.int (0 : Int32))) (F_5 : Fld Z h p "com/example/likeness/likeness/property/PropertyWriter" "member" "Ljava/lang/invoke/MethodHandle;" .null) (F_6 : Fld Z h p "com/example/likeness/likeness/property/PropertyWriter" "handle" "Ljava/lang/invoke/MethodHandle;" .null) :
    Con [] false l Z own_EL n0 [p] (⟨"com/example/likeness/likeness/property/PropertyWriter", "<init>", "(Ljava/lang/String;Ljava/lang/reflect/Type;Ljava/lang/String;Lcom/example/likeness/likeness/property/PropertyWriter$Access;)V"⟩ : MethodName) prog_52_method_1_code 5 none ({ frames := 3, cells := 0, slots := 0, locals := 48 } : Room) #[(.ref p), (.ref nm), (.ref mo), (.ref ac), (.ref lm)] h (fun v h' sf => v = none ∧ Keep h h' [p] ∧ Fld Z h' p "com/example/likeness/likeness/property/PropertyWriter" "name" "Ljava/lang/String;" (.ref nm) ∧ Fld Z h' p "com/example/likeness/likeness/property/PropertyWriter" "type" "Ljava/lang/reflect/Type;" (.ref mo) ∧ Fld Z h' p "com/example/likeness/likeness/property/PropertyWriter" "accessor" "Ljava/lang/String;" (.ref ac) ∧ Fld Z h' p "com/example/likeness/likeness/property/PropertyWriter" "access" "Lcom/example/likeness/likeness/property/PropertyWriter$Access;" (.ref lm) ∧ Fld Z h' p "com/example/likeness/likeness/property/PropertyWriter" "fillsHeld" "Z" (.int (0 : Int32)) ∧ Fld Z h' p "com/example/likeness/likeness/property/PropertyWriter" "member" "Ljava/lang/invoke/MethodHandle;" .null ∧ Fld Z h' p "com/example/likeness/likeness/property/PropertyWriter" "handle" "Ljava/lang/invoke/MethodHandle;" .null) := by
  refine Con.intro (Ls := #[.val (.ref p), .val (.ref nm), .val (.ref mo), .val (.ref ac), .val (.ref lm)]) pn28 hEL hO (fun m => by first | rfl | (simp [entryFrame, mkF, argsToLocals, Value.category]; done)) fun C vm T hl X hs => ?_
  have X : On C ({ frames := 3, cells := 0, slots := 0, locals := 48 } : Room) "com/example/likeness/likeness/property/PropertyWriter" prog_52_method_1_code 5 none "<init>" false Z a0 own_EL n0 vm T h 0 0 := X
  have sf_p := hs p (List.mem_of_getElem? (i := 0) rfl)
  refine X.aload_n i28_0 rfl rfl ?_
  refine X.aload_n i28_1 rfl rfl ?_
  refine X.aload_n i28_2 rfl rfl ?_
  refine X.aload_n i28_3 rfl rfl ?_
  refine X.aload i28_4 rfl rfl ?_
  refine X.iconst i28_6 (z := (0 : Int32)) rfl ?_
  refine X.callI hl (argsL := [(.ref nm), (.ref mo), (.ref ac), (.ref lm), (.int (0 : Int32))]) (a := p) i28_7 (c_pw5 l hw hEL hcs hcz hfm hfr hmo X.old p nm ac lm E_p g_p F_0 F_1 F_2 F_3 F_4 F_5 F_6) (hw _ wd_160) (hw _ wd_161) (hw _ wd_36) (hw _ wd_162) rfl (by decide) (sf_cons ⟨sf_p, (E_p).lt⟩ sf_nil) pd19 rfl rfl rfl (W := 0) rfl (by decide) (by decide) (k' := 0) rfl (n' := 0) rfl (by decide) (by decide) fun vm1 T1 h1 v1 X1 r1 Q1 => ?_
  obtain ⟨rfl, q1_0, q1_1, q1_2, q1_3, q1_4, q1_5, q1_6, q1_7⟩ := Q1
  show Go _ _ _ _ _ _ _ T1 10 #[.val (.ref p), .val (.ref nm), .val (.ref mo), .val (.ref ac), .val (.ref lm)] []
  exact X1.ret i28_10 rfl (by decide) (by decide) (fun sf hsf => ⟨rfl, ((Keep.refl _ [p]).trans q1_0 (allS (Or.inl (List.mem_of_getElem? (i := 0) rfl)) all0)), q1_1, q1_2, q1_3, q1_4, q1_5, q1_6, q1_7⟩)
set_option maxRecDepth 65536 in
set_option maxHeartbeats 40000000 in
theorem c_gname (l : Launch) {Z : State} {a0 : Array Value} {n0 : Nat} (hw : ∀ d ∈ tables_1, d.before a0 Z = true) (hEL : EW Z a0 own_EL) {zc : Int32} (hcs : Sta Z Z.heap "java/lang/String" "COMPACT_STRINGS" "Z" (.int zc)) (hcz : ¬ zc = 0) {fm : Value} (hfm : Sta Z Z.heap "jdk/internal/util/Preconditions" "SIOOBE_FORMATTER" "Ljava/util/function/BiFunction;" fm) (hfr : fm.isRef = true) {mo : Addr} (hmo : OwnMir Z "java/lang/Object" mo) {h : Heap} (hO : Old Z n0 h) (p : Addr) (nm : Addr) (F_p : Fld Z h p "com/example/likeness/likeness/property/PropertyWriter" "name" "Ljava/lang/String;" (.ref nm)) :
    Con [] false l Z own_EL n0 [] (⟨"com/example/likeness/likeness/property/PropertyWriter", "name", "()Ljava/lang/String;"⟩ : MethodName) prog_52_method_5_code 1 (some (.object "java/lang/String")) ({ frames := 0, cells := 0, slots := 0, locals := 0 } : Room) #[(.ref p)] h (fun v h' sf => v = some (.ref nm) ∧ h = h') := by
  refine Con.intro (Ls := #[.val (.ref p)]) pn29 hEL hO (fun m => by first | rfl | (simp [entryFrame, mkF, argsToLocals, Value.category]; done)) fun C vm T hl X hs => ?_
  have X : On C ({ frames := 0, cells := 0, slots := 0, locals := 0 } : Room) "com/example/likeness/likeness/property/PropertyWriter" prog_52_method_5_code 1 (some (.object "java/lang/String")) "name" false Z a0 own_EL n0 vm T h 0 0 := X
  refine X.aload_n i29_0 rfl rfl ?_
  refine X.getfield i29_1 (hw _ wd_167) Via.refl F_p fun T1 X1 => ?_
  exact X1.areturn i29_4 rfl rfl rfl (by decide) (by decide) (fun sf hsf => ⟨rfl, rfl⟩)
set_option maxRecDepth 65536 in
set_option maxHeartbeats 40000000 in
theorem c_gtype (l : Launch) {Z : State} {a0 : Array Value} {n0 : Nat} (hw : ∀ d ∈ tables_1, d.before a0 Z = true) (hEL : EW Z a0 own_EL) {zc : Int32} (hcs : Sta Z Z.heap "java/lang/String" "COMPACT_STRINGS" "Z" (.int zc)) (hcz : ¬ zc = 0) {fm : Value} (hfm : Sta Z Z.heap "jdk/internal/util/Preconditions" "SIOOBE_FORMATTER" "Ljava/util/function/BiFunction;" fm) (hfr : fm.isRef = true) {mo : Addr} (hmo : OwnMir Z "java/lang/Object" mo) {h : Heap} (hO : Old Z n0 h) (p : Addr) (F_p : Fld Z h p "com/example/likeness/likeness/property/PropertyWriter" "type" "Ljava/lang/reflect/Type;" (.ref mo)) :
    Con [] false l Z own_EL n0 [] (⟨"com/example/likeness/likeness/property/PropertyWriter", "type", "()Ljava/lang/reflect/Type;"⟩ : MethodName) prog_52_method_6_code 1 (some (.object "java/lang/reflect/Type")) ({ frames := 0, cells := 0, slots := 0, locals := 0 } : Room) #[(.ref p)] h (fun v h' sf => v = some (.ref mo) ∧ h = h') := by
  refine Con.intro (Ls := #[.val (.ref p)]) pn30 hEL hO (fun m => by first | rfl | (simp [entryFrame, mkF, argsToLocals, Value.category]; done)) fun C vm T hl X hs => ?_
  have X : On C ({ frames := 0, cells := 0, slots := 0, locals := 0 } : Room) "com/example/likeness/likeness/property/PropertyWriter" prog_52_method_6_code 1 (some (.object "java/lang/reflect/Type")) "type" false Z a0 own_EL n0 vm T h 0 0 := X
  refine X.aload_n i30_0 rfl rfl ?_
  refine X.getfield i30_1 (hw _ wd_169) Via.refl F_p fun T1 X1 => ?_
  exact X1.areturn i30_4 rfl rfl rfl (by decide) (by decide) (fun sf hsf => ⟨rfl, rfl⟩)
set_option maxRecDepth 65536 in
set_option maxHeartbeats 40000000 in
theorem c_gfillsHeld (l : Launch) {Z : State} {a0 : Array Value} {n0 : Nat} (hw : ∀ d ∈ tables_1, d.before a0 Z = true) (hEL : EW Z a0 own_EL) {zc : Int32} (hcs : Sta Z Z.heap "java/lang/String" "COMPACT_STRINGS" "Z" (.int zc)) (hcz : ¬ zc = 0) {fm : Value} (hfm : Sta Z Z.heap "jdk/internal/util/Preconditions" "SIOOBE_FORMATTER" "Ljava/util/function/BiFunction;" fm) (hfr : fm.isRef = true) {mo : Addr} (hmo : OwnMir Z "java/lang/Object" mo) {h : Heap} (hO : Old Z n0 h) (p : Addr) (F_p : Fld Z h p "com/example/likeness/likeness/property/PropertyWriter" "fillsHeld" "Z" (.int (0 : Int32))) :
    Con [] false l Z own_EL n0 [] (⟨"com/example/likeness/likeness/property/PropertyWriter", "fillsHeld", "()Z"⟩ : MethodName) prog_52_method_7_code 1 (some .boolean) ({ frames := 0, cells := 0, slots := 0, locals := 0 } : Room) #[(.ref p)] h (fun v h' sf => v = some (.int (0 : Int32)) ∧ h = h') := by
  refine Con.intro (Ls := #[.val (.ref p)]) pn31 hEL hO (fun m => by first | rfl | (simp [entryFrame, mkF, argsToLocals, Value.category]; done)) fun C vm T hl X hs => ?_
  have X : On C ({ frames := 0, cells := 0, slots := 0, locals := 0 } : Room) "com/example/likeness/likeness/property/PropertyWriter" prog_52_method_7_code 1 (some .boolean) "fillsHeld" false Z a0 own_EL n0 vm T h 0 0 := X
  refine X.aload_n i31_0 rfl rfl ?_
  refine X.getfield i31_1 (hw _ wd_175) Via.refl F_p fun T1 X1 => ?_
  exact X1.ireturn i31_4 (t := .boolean) rfl (by decide) rfl (by decide) (by decide) (fun sf hsf => ⟨rfl, rfl⟩)
set_option maxRecDepth 65536 in
set_option maxHeartbeats 40000000 in
theorem c_gmember (l : Launch) {Z : State} {a0 : Array Value} {n0 : Nat} (hw : ∀ d ∈ tables_1, d.before a0 Z = true) (hEL : EW Z a0 own_EL) {zc : Int32} (hcs : Sta Z Z.heap "java/lang/String" "COMPACT_STRINGS" "Z" (.int zc)) (hcz : ¬ zc = 0) {fm : Value} (hfm : Sta Z Z.heap "jdk/internal/util/Preconditions" "SIOOBE_FORMATTER" "Ljava/util/function/BiFunction;" fm) (hfr : fm.isRef = true) {mo : Addr} (hmo : OwnMir Z "java/lang/Object" mo) {h : Heap} (hO : Old Z n0 h) (p : Addr) (F_p : Fld Z h p "com/example/likeness/likeness/property/PropertyWriter" "member" "Ljava/lang/invoke/MethodHandle;" .null) :
    Con [] false l Z own_EL n0 [] (⟨"com/example/likeness/likeness/property/PropertyWriter", "member", "()Ljava/lang/invoke/MethodHandle;"⟩ : MethodName) prog_52_method_9_code 1 (some (.object "java/lang/invoke/MethodHandle")) ({ frames := 0, cells := 0, slots := 0, locals := 0 } : Room) #[(.ref p)] h (fun v h' sf => v = some .null ∧ h = h') := by
  refine Con.intro (Ls := #[.val (.ref p)]) pn32 hEL hO (fun m => by first | rfl | (simp [entryFrame, mkF, argsToLocals, Value.category]; done)) fun C vm T hl X hs => ?_
  have X : On C ({ frames := 0, cells := 0, slots := 0, locals := 0 } : Room) "com/example/likeness/likeness/property/PropertyWriter" prog_52_method_9_code 1 (some (.object "java/lang/invoke/MethodHandle")) "member" false Z a0 own_EL n0 vm T h 0 0 := X
  refine X.aload_n i32_0 rfl rfl ?_
  refine X.getfield i32_1 (hw _ wd_177) Via.refl F_p fun T1 X1 => ?_
  exact X1.areturn i32_4 rfl rfl rfl (by decide) (by decide) (fun sf hsf => ⟨rfl, rfl⟩)
set_option maxRecDepth 65536 in
set_option maxHeartbeats 40000000 in
theorem c_ghandle (l : Launch) {Z : State} {a0 : Array Value} {n0 : Nat} (hw : ∀ d ∈ tables_1, d.before a0 Z = true) (hEL : EW Z a0 own_EL) {zc : Int32} (hcs : Sta Z Z.heap "java/lang/String" "COMPACT_STRINGS" "Z" (.int zc)) (hcz : ¬ zc = 0) {fm : Value} (hfm : Sta Z Z.heap "jdk/internal/util/Preconditions" "SIOOBE_FORMATTER" "Ljava/util/function/BiFunction;" fm) (hfr : fm.isRef = true) {mo : Addr} (hmo : OwnMir Z "java/lang/Object" mo) {h : Heap} (hO : Old Z n0 h) (p : Addr) (F_p : Fld Z h p "com/example/likeness/likeness/property/PropertyWriter" "handle" "Ljava/lang/invoke/MethodHandle;" .null) :
    Con [] false l Z own_EL n0 [] (⟨"com/example/likeness/likeness/property/PropertyWriter", "handle", "()Ljava/lang/invoke/MethodHandle;"⟩ : MethodName) prog_52_method_10_code 1 (some (.object "java/lang/invoke/MethodHandle")) ({ frames := 0, cells := 0, slots := 0, locals := 0 } : Room) #[(.ref p)] h (fun v h' sf => v = some .null ∧ h = h') := by
  refine Con.intro (Ls := #[.val (.ref p)]) pn33 hEL hO (fun m => by first | rfl | (simp [entryFrame, mkF, argsToLocals, Value.category]; done)) fun C vm T hl X hs => ?_
  have X : On C ({ frames := 0, cells := 0, slots := 0, locals := 0 } : Room) "com/example/likeness/likeness/property/PropertyWriter" prog_52_method_10_code 1 (some (.object "java/lang/invoke/MethodHandle")) "handle" false Z a0 own_EL n0 vm T h 0 0 := X
  refine X.aload_n i33_0 rfl rfl ?_
  refine X.getfield i33_1 (hw _ wd_179) Via.refl F_p fun T1 X1 => ?_
  exact X1.areturn i33_4 rfl rfl rfl (by decide) (by decide) (fun sf hsf => ⟨rfl, rfl⟩)
set_option maxRecDepth 65536 in
set_option maxHeartbeats 40000000 in
theorem c_gtoString (l : Launch) {Z : State} {a0 : Array Value} {n0 : Nat} (hw : ∀ d ∈ tables_1, d.before a0 Z = true) (hEL : EW Z a0 own_EL) {zc : Int32} (hcs : Sta Z Z.heap "java/lang/String" "COMPACT_STRINGS" "Z" (.int zc)) (hcz : ¬ zc = 0) {fm : Value} (hfm : Sta Z Z.heap "jdk/internal/util/Preconditions" "SIOOBE_FORMATTER" "Ljava/util/function/BiFunction;" fm) (hfr : fm.isRef = true) {mo : Addr} (hmo : OwnMir Z "java/lang/Object" mo) {h : Heap} (hO : Old Z n0 h) (p : Addr) (ac : Addr) (F_p : Fld Z h p "com/example/likeness/likeness/property/PropertyWriter" "accessor" "Ljava/lang/String;" (.ref ac)) :
    Con [] false l Z own_EL n0 [] (⟨"com/example/likeness/likeness/property/PropertyWriter", "toString", "()Ljava/lang/String;"⟩ : MethodName) prog_52_method_11_code 1 (some (.object "java/lang/String")) ({ frames := 0, cells := 0, slots := 0, locals := 0 } : Room) #[(.ref p)] h (fun v h' sf => v = some (.ref ac) ∧ h = h') := by
  refine Con.intro (Ls := #[.val (.ref p)]) pn34 hEL hO (fun m => by first | rfl | (simp [entryFrame, mkF, argsToLocals, Value.category]; done)) fun C vm T hl X hs => ?_
  have X : On C ({ frames := 0, cells := 0, slots := 0, locals := 0 } : Room) "com/example/likeness/likeness/property/PropertyWriter" prog_52_method_11_code 1 (some (.object "java/lang/String")) "toString" false Z a0 own_EL n0 vm T h 0 0 := X
  refine X.aload_n i34_0 rfl rfl ?_
  refine X.getfield i34_1 (hw _ wd_171) Via.refl F_p fun T1 X1 => ?_
  exact X1.areturn i34_4 rfl rfl rfl (by decide) (by decide) (fun sf hsf => ⟨rfl, rfl⟩)
set_option maxRecDepth 65536 in
set_option maxHeartbeats 40000000 in
theorem c_ew (l : Launch) {Z : State} {a0 : Array Value} {n0 : Nat} (hw : ∀ d ∈ tables_1, d.before a0 Z = true) (hEL : EW Z a0 own_EL) {zc : Int32} (hcs : Sta Z Z.heap "java/lang/String" "COMPACT_STRINGS" "Z" (.int zc)) (hcz : ¬ zc = 0) {fm : Value} (hfm : Sta Z Z.heap "jdk/internal/util/Preconditions" "SIOOBE_FORMATTER" "Ljava/util/function/BiFunction;" fm) (hfr : fm.isRef = true) {mo : Addr} (hmo : OwnMir Z "java/lang/Object" mo) {h : Heap} (hO : Old Z n0 h) (s : Addr) (t : Addr) (kb : ClassId) (cs : List Int32) (S_s : Str Z h s t kb cs) (hc : cs.length ≤ 3) :
    Con [] false l Z own_EL n0 [] (⟨"com/example/likeness/likeness/property/Elements", "entryWriter", "(Ljava/lang/String;)Lcom/example/likeness/likeness/property/PropertyWriter;"⟩ : MethodName) prog_46_method_7_code 1 (some (.object "com/example/likeness/likeness/property/PropertyWriter")) ({ frames := 6, cells := 10, slots := 104, locals := 3078 } : Room) #[(.ref s)] h (fun v h' sf => ∃ (p : Addr) (x : Addr) (lm : Addr) (tx : Addr) (kx : ClassId), v = some (.ref p) ∧ Ext h h' ∧ h.size ≤ p ∧ Exa Z h' p "com/example/likeness/likeness/property/PropertyWriter" ∧ Fld Z h' p "com/example/likeness/likeness/property/PropertyWriter" "name" "Ljava/lang/String;" (.ref s) ∧ Fld Z h' p "com/example/likeness/likeness/property/PropertyWriter" "type" "Ljava/lang/reflect/Type;" (.ref mo) ∧ Fld Z h' p "com/example/likeness/likeness/property/PropertyWriter" "accessor" "Ljava/lang/String;" (.ref x) ∧ Fld Z h' p "com/example/likeness/likeness/property/PropertyWriter" "access" "Lcom/example/likeness/likeness/property/PropertyWriter$Access;" (.ref lm) ∧ Fld Z h' p "com/example/likeness/likeness/property/PropertyWriter" "fillsHeld" "Z" (.int (0 : Int32)) ∧ Fld Z h' p "com/example/likeness/likeness/property/PropertyWriter" "member" "Ljava/lang/invoke/MethodHandle;" .null ∧ Fld Z h' p "com/example/likeness/likeness/property/PropertyWriter" "handle" "Ljava/lang/invoke/MethodHandle;" .null ∧ Str Z h' x tx kx (((([] : List Int32) ++ [(116 : Int32), (104 : Int32), (101 : Int32), (32 : Int32), (101 : Int32), (110 : Int32), (116 : Int32), (114 : Int32), (121 : Int32), (32 : Int32), (34 : Int32)]) ++ cs) ++ [(34 : Int32)])) := by
  refine Con.introN (Ls := #[.val (.ref s)]) pn35 hEL hO (fun m => by first | rfl | (simp [entryFrame, mkF, argsToLocals, Value.category]; done)) fun C vm T hl X hs hN => ?_
  have X : On C ({ frames := 6, cells := 10, slots := 104, locals := 3078 } : Room) "com/example/likeness/likeness/property/Elements" prog_46_method_7_code 1 (some (.object "com/example/likeness/likeness/property/PropertyWriter")) "entryWriter" false Z a0 own_EL n0 vm T h 0 0 := X
  have lsS := S_s.2.2.2.2
  refine X.new i35_0 (hw _ wd_34) (hw _ wd_35) (hw _ wd_36) (k' := 1) rfl (n' := 7) rfl (by decide) (by decide) fun T1 h1 a1 X1 E1 z1 g1 A1 D1 U1 Sf1 => ?_
  refine X1.dup i35_3 rfl ?_
  refine X1.aload_n i35_4 rfl rfl ?_
  refine X1.ldcM i35_5 (hw _ wd_37) hmo fun T2 X2 => ?_
  refine X2.new i35_7 (hw _ wd_39) (hw _ wd_40) (hw _ wd_41) (k' := 2) rfl (n' := 11) rfl (by decide) (by decide) fun T3 h3 a3 X3 E3 z3 g3 A3 D3 U3 Sf3 => ?_
  refine X3.dup i35_10 rfl ?_
  have F4 : Fld Z h3 a3 "java/lang/AbstractStringBuilder" "value" "[B" .null := D3 (Or.inl (hw _ wd_54)) (ty := (.array .byte)) (by decide)
  have F5 : Fld Z h3 a3 "java/lang/AbstractStringBuilder" "coder" "B" (.int (0 : Int32)) := D3 (Or.inl (hw _ wd_56)) (ty := .byte) (by decide)
  have F6 : Fld Z h3 a3 "java/lang/AbstractStringBuilder" "count" "I" (.int (0 : Int32)) := D3 (Or.inl (hw _ wd_81)) (ty := .int) (by decide)
  refine X3.callI hl (argsL := []) (a := a3) i35_11 (c_sbi l hw hEL hcs hcz hfm hfr hmo X3.old a3 A3 g3 F4 F5 F6) (hw _ wd_42) (hw _ wd_43) (hw _ wd_41) (hw _ wd_44) rfl (by decide) sf_nil pd20 rfl rfl rfl (W := 5) rfl (by decide) (by decide) (k' := 3) rfl (n' := 27) rfl (by decide) (by decide) fun vm7 T7 h7 v7 X7 r7 Q7 => ?_
  obtain ⟨ar_7, ka_7, rfl, q7_0, q7_1, q7_2, q7_3, q7_4, q7_5, q7_6⟩ := Q7
  have g8 := Nat.le_trans X3.n0le q7_1
  show Go _ _ _ _ _ _ _ T7 14 #[.val (.ref s)] [(.ref a3), (.ref mo), (.ref s), (.ref a1), (.ref a1)]
  refine X7.ldcS rfl (cs := [(116 : Int32), (104 : Int32), (101 : Int32), (32 : Int32), (101 : Int32), (110 : Int32), (116 : Int32), (114 : Int32), (121 : Int32), (32 : Int32), (34 : Int32)]) i35_14 (hw _ wd_57) (own_wS hw) (List.mem_of_getElem? (i := 0) rfl) lt1_a lt1_b lt1_c (Nat.le_of_ble_eq_true rfl) (nn := 44) (Nat.le_of_eq lt1_d) (by decide) (k' := 5) rfl (n' := 75) rfl (by decide) (by decide) fun vm9 T9 h9 a9 t9 b9 X9 E9 r9 S9 ne9 => ?_
  have E10 := ((A3.keep q7_0).ext E9)
  have F11 := (q7_2.ext E9)
  have F12 := (q7_3.ext E9)
  have F13 := (q7_4.ext E9)
  have V14 := (q7_5.ext E9)
  have Sf16 := (r9).safe (q7_5).lt q7_6
  refine X9.callV hl (argsL := [(.ref a9)]) (a := a3) i35_16 (c_app l hw hEL hcs hcz hfm hfr hmo X9.old a3 a9 t9 b9 [(116 : Int32), (104 : Int32), (101 : Int32), (32 : Int32), (101 : Int32), (110 : Int32), (116 : Int32), (114 : Int32), (121 : Int32), (32 : Int32), (34 : Int32)] ar_7 ka_7 ([] : List Int32) S9 E10 g3 g8 F11 F12 F13 V14 (by have := hc; simp only [List.length_append, List.length_cons, List.length_nil, List.nil_append]; omega) (by have := hc; simp only [List.length_append, List.length_cons, List.length_nil, List.nil_append]; omega) (Nat.ne_of_lt (Nat.lt_of_lt_of_le (F4).lt q7_1))) E10 (hw _ wd_60) (hw _ wd_61) (hw _ wd_63) (nfSel X9.zw (hw _ wd_63)) (hw _ wd_62) (hw _ wd_41) (hw _ wd_64) (by decide) (sf_cons ⟨Sf16, (V14).lt⟩ sf_nil) pd21 rfl rfl rfl (W := 4) rfl (by decide) (by decide) (k' := 5) rfl (n' := 75) rfl (by decide) (by decide) fun vm15 T15 h15 v15 X15 r15 Q15 => ?_
  obtain ⟨rfl, q15_0, q15_1, q15_2, q15_3, q15_4, q15_5⟩ := Q15
  show Go _ _ _ _ _ _ _ T15 19 #[.val (.ref s)] [(.ref a3), (.ref mo), (.ref s), (.ref a1), (.ref a1)]
  refine X15.aload_n i35_19 rfl rfl ?_
  have S17 := (((((S_s.ext E1).ext E3).keep q7_0 (ninS (Nat.ne_of_lt (Nat.lt_of_lt_of_le (Nat.lt_of_lt_of_le (S_s).lt E1.1) (Nat.le_of_eq z3))) nin0) (ninS (Nat.ne_of_lt (Nat.lt_of_lt_of_le (Nat.lt_of_lt_of_le (S_s).ltT E1.1) (Nat.le_of_eq z3))) nin0)).ext E9).keep q15_0 (ninS (Nat.ne_of_lt (Nat.lt_of_lt_of_le (Nat.lt_of_lt_of_le (S_s).lt E1.1) (Nat.le_of_eq z3))) (ninS (Nat.ne_of_lt (Nat.lt_of_lt_of_le (Nat.lt_of_lt_of_le (Nat.lt_of_lt_of_le (S_s).lt E1.1) E3.1) q7_1)) nin0)) (ninS (Nat.ne_of_lt (Nat.lt_of_lt_of_le (Nat.lt_of_lt_of_le (S_s).ltT E1.1) (Nat.le_of_eq z3))) (ninS (Nat.ne_of_lt (Nat.lt_of_lt_of_le (Nat.lt_of_lt_of_le (Nat.lt_of_lt_of_le (S_s).ltT E1.1) E3.1) q7_1)) nin0)))
  have E18 := (E10.keep q15_0)
  refine X15.callV hl (argsL := [(.ref s)]) (a := a3) i35_20 (c_app l hw hEL hcs hcz hfm hfr hmo X15.old a3 s t kb cs ar_7 ka_7 (([] : List Int32) ++ [(116 : Int32), (104 : Int32), (101 : Int32), (32 : Int32), (101 : Int32), (110 : Int32), (116 : Int32), (114 : Int32), (121 : Int32), (32 : Int32), (34 : Int32)]) S17 E18 g3 g8 q15_1 q15_2 q15_3 q15_4 (by have := hc; simp only [List.length_append, List.length_cons, List.length_nil, List.nil_append]; omega) (by have := hc; simp only [List.length_append, List.length_cons, List.length_nil, List.nil_append]; omega) (Nat.ne_of_lt (Nat.lt_of_lt_of_le (F4).lt q7_1))) E18 (hw _ wd_60) (hw _ wd_61) (hw _ wd_63) (nfSel X15.zw (hw _ wd_63)) (hw _ wd_62) (hw _ wd_41) (hw _ wd_64) (by decide) (sf_cons ⟨q15_5, (q15_4).lt⟩ sf_nil) pd21 rfl rfl rfl (W := 4) rfl (by decide) (by decide) (k' := 5) rfl (n' := 75) rfl (by decide) (by decide) fun vm19 T19 h19 v19 X19 r19 Q19 => ?_
  obtain ⟨rfl, q19_0, q19_1, q19_2, q19_3, q19_4, q19_5⟩ := Q19
  show Go _ _ _ _ _ _ _ T19 23 #[.val (.ref s)] [(.ref a3), (.ref mo), (.ref s), (.ref a1), (.ref a1)]
  refine X19.ldcS rfl (cs := [(34 : Int32)]) i35_23 (hw _ wd_107) (own_wS hw) (List.mem_of_getElem? (i := 1) rfl) lt2_a lt2_b lt2_c (Nat.le_of_ble_eq_true rfl) (nn := 4) (Nat.le_of_eq lt2_d) (by decide) (k' := 7) rfl (n' := 83) rfl (by decide) (by decide) fun vm20 T20 h20 a20 t20 b20 X20 E20 r20 S20 ne20 => ?_
  have E21 := ((E18.keep q19_0).ext E20)
  have F22 := (q19_1.ext E20)
  have F23 := (q19_2.ext E20)
  have F24 := (q19_3.ext E20)
  have V25 := (q19_4.ext E20)
  have Sf27 := (r20).safe (q19_4).lt q19_5
  refine X20.callV hl (argsL := [(.ref a20)]) (a := a3) i35_25 (c_app l hw hEL hcs hcz hfm hfr hmo X20.old a3 a20 t20 b20 [(34 : Int32)] ar_7 ka_7 ((([] : List Int32) ++ [(116 : Int32), (104 : Int32), (101 : Int32), (32 : Int32), (101 : Int32), (110 : Int32), (116 : Int32), (114 : Int32), (121 : Int32), (32 : Int32), (34 : Int32)]) ++ cs) S20 E21 g3 g8 F22 F23 F24 V25 (by have := hc; simp only [List.length_append, List.length_cons, List.length_nil, List.nil_append]; omega) (by have := hc; simp only [List.length_append, List.length_cons, List.length_nil, List.nil_append]; omega) (Nat.ne_of_lt (Nat.lt_of_lt_of_le (F4).lt q7_1))) E21 (hw _ wd_60) (hw _ wd_61) (hw _ wd_63) (nfSel X20.zw (hw _ wd_63)) (hw _ wd_62) (hw _ wd_41) (hw _ wd_64) (by decide) (sf_cons ⟨Sf27, (V25).lt⟩ sf_nil) pd21 rfl rfl rfl (W := 4) rfl (by decide) (by decide) (k' := 7) rfl (n' := 83) rfl (by decide) (by decide) fun vm26 T26 h26 v26 X26 r26 Q26 => ?_
  obtain ⟨rfl, q26_0, q26_1, q26_2, q26_3, q26_4, q26_5⟩ := Q26
  show Go _ _ _ _ _ _ _ T26 28 #[.val (.ref s)] [(.ref a3), (.ref mo), (.ref s), (.ref a1), (.ref a1)]
  have E28 := (E21.keep q26_0)
  refine X26.callV hl (argsL := []) (a := a3) i35_28 (c_tos l hw hEL hcs hcz hfm hfr hmo X26.old a3 ar_7 ka_7 (((([] : List Int32) ++ [(116 : Int32), (104 : Int32), (101 : Int32), (32 : Int32), (101 : Int32), (110 : Int32), (116 : Int32), (114 : Int32), (121 : Int32), (32 : Int32), (34 : Int32)]) ++ cs) ++ [(34 : Int32)]) E28 q26_1 q26_2 q26_3 q26_4 (by have := hc; simp only [List.length_append, List.length_cons, List.length_nil, List.nil_append]; omega) (own_lapp (own_lapp (own_lapp own_all0 lt1_c) lsS) lt2_c)) E28 (hw _ wd_108) (hw _ wd_109) (hw _ wd_111) (nfSel X26.zw (hw _ wd_111)) (hw _ wd_110) (hw _ wd_41) (hw _ wd_112) (by decide) sf_nil pd22 rfl rfl rfl (W := 4) rfl (by decide) (by decide) (k' := 9) rfl (n' := 103) rfl (by decide) (by decide) fun vm29 T29 h29 v29 X29 r29 Q29 => ?_
  obtain ⟨x_29, t_29, kt_29, rfl, q29_0, q29_1, q29_2, q29_3⟩ := Q29
  have g30 := Nat.le_trans X26.n0le q29_1
  have g31 := Nat.le_trans X26.n0le q29_3
  show Go _ _ _ _ _ _ _ T29 31 #[.val (.ref s)] [(.ref x_29), (.ref mo), (.ref s), (.ref a1), (.ref a1)]
  refine X29.aload_n i35_31 rfl rfl ?_
  refine X29.lambda i35_32 hN (hw _ wd_153) (hw _ wd_156) rfl ly35_32 rfl rfl (W := 6) rfl (by decide) (k' := 10) rfl (n' := 104) rfl (by decide) (by decide) fun T32 h32 a32 X32 E32 z32 g32 => ?_
  have E33 := (((((((((A1.ext E3).keep q7_0).ext E9).keep q15_0).keep q19_0).ext E20).keep q26_0).ext q29_0).ext E32)
  have F34 : Fld Z h1 a1 "com/example/likeness/likeness/property/PropertyWriter" "name" "Ljava/lang/String;" .null := D1 (Or.inr (hw _ wd_168)) (ty := (.object "java/lang/String")) (by decide)
  have F35 := (((((((((F34.ext E3).keep q7_0 (ninS (Nat.ne_of_lt (Nat.lt_of_lt_of_le (A1).lt (Nat.le_of_eq z3))) nin0)).ext E9).keep q15_0 (ninS (Nat.ne_of_lt (Nat.lt_of_lt_of_le (A1).lt (Nat.le_of_eq z3))) (ninS (Nat.ne_of_lt (Nat.lt_of_lt_of_le (Nat.lt_of_lt_of_le (A1).lt E3.1) q7_1)) nin0))).keep q19_0 (ninS (Nat.ne_of_lt (Nat.lt_of_lt_of_le (A1).lt (Nat.le_of_eq z3))) (ninS (Nat.ne_of_lt (Nat.lt_of_lt_of_le (Nat.lt_of_lt_of_le (A1).lt E3.1) q7_1)) nin0))).ext E20).keep q26_0 (ninS (Nat.ne_of_lt (Nat.lt_of_lt_of_le (A1).lt (Nat.le_of_eq z3))) (ninS (Nat.ne_of_lt (Nat.lt_of_lt_of_le (Nat.lt_of_lt_of_le (A1).lt E3.1) q7_1)) nin0))).ext q29_0).ext E32)
  have F36 : Fld Z h1 a1 "com/example/likeness/likeness/property/PropertyWriter" "type" "Ljava/lang/reflect/Type;" .null := D1 (Or.inr (hw _ wd_170)) (ty := (.object "java/lang/reflect/Type")) (by decide)
  have F37 := (((((((((F36.ext E3).keep q7_0 (ninS (Nat.ne_of_lt (Nat.lt_of_lt_of_le (A1).lt (Nat.le_of_eq z3))) nin0)).ext E9).keep q15_0 (ninS (Nat.ne_of_lt (Nat.lt_of_lt_of_le (A1).lt (Nat.le_of_eq z3))) (ninS (Nat.ne_of_lt (Nat.lt_of_lt_of_le (Nat.lt_of_lt_of_le (A1).lt E3.1) q7_1)) nin0))).keep q19_0 (ninS (Nat.ne_of_lt (Nat.lt_of_lt_of_le (A1).lt (Nat.le_of_eq z3))) (ninS (Nat.ne_of_lt (Nat.lt_of_lt_of_le (Nat.lt_of_lt_of_le (A1).lt E3.1) q7_1)) nin0))).ext E20).keep q26_0 (ninS (Nat.ne_of_lt (Nat.lt_of_lt_of_le (A1).lt (Nat.le_of_eq z3))) (ninS (Nat.ne_of_lt (Nat.lt_of_lt_of_le (Nat.lt_of_lt_of_le (A1).lt E3.1) q7_1)) nin0))).ext q29_0).ext E32)
  have F38 : Fld Z h1 a1 "com/example/likeness/likeness/property/PropertyWriter" "accessor" "Ljava/lang/String;" .null := D1 (Or.inr (hw _ wd_172)) (ty := (.object "java/lang/String")) (by decide)
  have F39 := (((((((((F38.ext E3).keep q7_0 (ninS (Nat.ne_of_lt (Nat.lt_of_lt_of_le (A1).lt (Nat.le_of_eq z3))) nin0)).ext E9).keep q15_0 (ninS (Nat.ne_of_lt (Nat.lt_of_lt_of_le (A1).lt (Nat.le_of_eq z3))) (ninS (Nat.ne_of_lt (Nat.lt_of_lt_of_le (Nat.lt_of_lt_of_le (A1).lt E3.1) q7_1)) nin0))).keep q19_0 (ninS (Nat.ne_of_lt (Nat.lt_of_lt_of_le (A1).lt (Nat.le_of_eq z3))) (ninS (Nat.ne_of_lt (Nat.lt_of_lt_of_le (Nat.lt_of_lt_of_le (A1).lt E3.1) q7_1)) nin0))).ext E20).keep q26_0 (ninS (Nat.ne_of_lt (Nat.lt_of_lt_of_le (A1).lt (Nat.le_of_eq z3))) (ninS (Nat.ne_of_lt (Nat.lt_of_lt_of_le (Nat.lt_of_lt_of_le (A1).lt E3.1) q7_1)) nin0))).ext q29_0).ext E32)
  have F40 : Fld Z h1 a1 "com/example/likeness/likeness/property/PropertyWriter" "access" "Lcom/example/likeness/likeness/property/PropertyWriter$Access;" .null := D1 (Or.inr (hw _ wd_174)) (ty := (.object "com/example/likeness/likeness/property/PropertyWriter$Access")) (by decide)
  have F41 := (((((((((F40.ext E3).keep q7_0 (ninS (Nat.ne_of_lt (Nat.lt_of_lt_of_le (A1).lt (Nat.le_of_eq z3))) nin0)).ext E9).keep q15_0 (ninS (Nat.ne_of_lt (Nat.lt_of_lt_of_le (A1).lt (Nat.le_of_eq z3))) (ninS (Nat.ne_of_lt (Nat.lt_of_lt_of_le (Nat.lt_of_lt_of_le (A1).lt E3.1) q7_1)) nin0))).keep q19_0 (ninS (Nat.ne_of_lt (Nat.lt_of_lt_of_le (A1).lt (Nat.le_of_eq z3))) (ninS (Nat.ne_of_lt (Nat.lt_of_lt_of_le (Nat.lt_of_lt_of_le (A1).lt E3.1) q7_1)) nin0))).ext E20).keep q26_0 (ninS (Nat.ne_of_lt (Nat.lt_of_lt_of_le (A1).lt (Nat.le_of_eq z3))) (ninS (Nat.ne_of_lt (Nat.lt_of_lt_of_le (Nat.lt_of_lt_of_le (A1).lt E3.1) q7_1)) nin0))).ext q29_0).ext E32)
  have F42 : Fld Z h1 a1 "com/example/likeness/likeness/property/PropertyWriter" "fillsHeld" "Z" (.int (0 : Int32)) := D1 (Or.inr (hw _ wd_176)) (ty := .boolean) (by decide)
  have F43 := (((((((((F42.ext E3).keep q7_0 (ninS (Nat.ne_of_lt (Nat.lt_of_lt_of_le (A1).lt (Nat.le_of_eq z3))) nin0)).ext E9).keep q15_0 (ninS (Nat.ne_of_lt (Nat.lt_of_lt_of_le (A1).lt (Nat.le_of_eq z3))) (ninS (Nat.ne_of_lt (Nat.lt_of_lt_of_le (Nat.lt_of_lt_of_le (A1).lt E3.1) q7_1)) nin0))).keep q19_0 (ninS (Nat.ne_of_lt (Nat.lt_of_lt_of_le (A1).lt (Nat.le_of_eq z3))) (ninS (Nat.ne_of_lt (Nat.lt_of_lt_of_le (Nat.lt_of_lt_of_le (A1).lt E3.1) q7_1)) nin0))).ext E20).keep q26_0 (ninS (Nat.ne_of_lt (Nat.lt_of_lt_of_le (A1).lt (Nat.le_of_eq z3))) (ninS (Nat.ne_of_lt (Nat.lt_of_lt_of_le (Nat.lt_of_lt_of_le (A1).lt E3.1) q7_1)) nin0))).ext q29_0).ext E32)
  have F44 : Fld Z h1 a1 "com/example/likeness/likeness/property/PropertyWriter" "member" "Ljava/lang/invoke/MethodHandle;" .null := D1 (Or.inr (hw _ wd_178)) (ty := (.object "java/lang/invoke/MethodHandle")) (by decide)
  have F45 := (((((((((F44.ext E3).keep q7_0 (ninS (Nat.ne_of_lt (Nat.lt_of_lt_of_le (A1).lt (Nat.le_of_eq z3))) nin0)).ext E9).keep q15_0 (ninS (Nat.ne_of_lt (Nat.lt_of_lt_of_le (A1).lt (Nat.le_of_eq z3))) (ninS (Nat.ne_of_lt (Nat.lt_of_lt_of_le (Nat.lt_of_lt_of_le (A1).lt E3.1) q7_1)) nin0))).keep q19_0 (ninS (Nat.ne_of_lt (Nat.lt_of_lt_of_le (A1).lt (Nat.le_of_eq z3))) (ninS (Nat.ne_of_lt (Nat.lt_of_lt_of_le (Nat.lt_of_lt_of_le (A1).lt E3.1) q7_1)) nin0))).ext E20).keep q26_0 (ninS (Nat.ne_of_lt (Nat.lt_of_lt_of_le (A1).lt (Nat.le_of_eq z3))) (ninS (Nat.ne_of_lt (Nat.lt_of_lt_of_le (Nat.lt_of_lt_of_le (A1).lt E3.1) q7_1)) nin0))).ext q29_0).ext E32)
  have F46 : Fld Z h1 a1 "com/example/likeness/likeness/property/PropertyWriter" "handle" "Ljava/lang/invoke/MethodHandle;" .null := D1 (Or.inr (hw _ wd_180)) (ty := (.object "java/lang/invoke/MethodHandle")) (by decide)
  have F47 := (((((((((F46.ext E3).keep q7_0 (ninS (Nat.ne_of_lt (Nat.lt_of_lt_of_le (A1).lt (Nat.le_of_eq z3))) nin0)).ext E9).keep q15_0 (ninS (Nat.ne_of_lt (Nat.lt_of_lt_of_le (A1).lt (Nat.le_of_eq z3))) (ninS (Nat.ne_of_lt (Nat.lt_of_lt_of_le (Nat.lt_of_lt_of_le (A1).lt E3.1) q7_1)) nin0))).keep q19_0 (ninS (Nat.ne_of_lt (Nat.lt_of_lt_of_le (A1).lt (Nat.le_of_eq z3))) (ninS (Nat.ne_of_lt (Nat.lt_of_lt_of_le (Nat.lt_of_lt_of_le (A1).lt E3.1) q7_1)) nin0))).ext E20).keep q26_0 (ninS (Nat.ne_of_lt (Nat.lt_of_lt_of_le (A1).lt (Nat.le_of_eq z3))) (ninS (Nat.ne_of_lt (Nat.lt_of_lt_of_le (Nat.lt_of_lt_of_le (A1).lt E3.1) q7_1)) nin0))).ext q29_0).ext E32)
  have Sf49 := ((((((((((CHr.ext E3 X2.chv)).trans r7).trans r9).trans r15).trans r19).trans r20).trans r26).trans r29).trans (CHr.ext E32 X29.chv)).safe (A1).lt Sf1
  refine X32.callI hl (argsL := [(.ref s), (.ref mo), (.ref x_29), (.ref a32)]) (a := a1) i35_37 (c_pw4 l hw hEL hcs hcz hfm hfr hmo X32.old a1 s x_29 a32 E33 g1 F35 F37 F39 F41 F43 F45 F47) (hw _ wd_157) (hw _ wd_158) (hw _ wd_36) (hw _ wd_159) rfl (by decide) (sf_cons ⟨Sf49, (E33).lt⟩ sf_nil) pd23 rfl rfl rfl (W := 1) rfl (by decide) (by decide) (k' := 10) rfl (n' := 104) rfl (by decide) (by decide) fun vm48 T48 h48 v48 X48 r48 Q48 => ?_
  obtain ⟨rfl, q48_0, q48_1, q48_2, q48_3, q48_4, q48_5, q48_6, q48_7⟩ := Q48
  show Go _ _ _ _ _ _ _ T48 40 #[.val (.ref s)] [(.ref a1)]
  have E50 := (E33.keep q48_0)
  have S51 := ((q29_2.ext E32).keep q48_0 (ninS (Nat.ne_of_gt (Nat.lt_of_lt_of_le (Nat.lt_of_lt_of_le (Nat.lt_of_lt_of_le (Nat.lt_of_lt_of_le (Nat.lt_of_lt_of_le (Nat.lt_of_lt_of_le (Nat.lt_of_lt_of_le (Nat.lt_of_lt_of_le (A1).lt E3.1) q7_0.1) E9.1) q15_0.1) q19_0.1) E20.1) q26_0.1) q29_1)) nin0) (ninS (Nat.ne_of_gt (Nat.lt_of_lt_of_le (Nat.lt_of_lt_of_le (Nat.lt_of_lt_of_le (Nat.lt_of_lt_of_le (Nat.lt_of_lt_of_le (Nat.lt_of_lt_of_le (Nat.lt_of_lt_of_le (Nat.lt_of_lt_of_le (A1).lt E3.1) q7_0.1) E9.1) q15_0.1) q19_0.1) E20.1) q26_0.1) q29_3)) nin0))
  exact X48.areturn i35_40 rfl rfl rfl (by decide) (by decide) (fun sf hsf => ⟨a1, x_29, a32, t_29, kt_29, rfl, (ext_keep (ext_trans (ext_trans (ext_keep (ext_trans (ext_keep (ext_keep (ext_trans (ext_keep (ext_trans E1 E3) q7_0 (allS (Nat.le_trans E1.1 (Nat.le_of_eq z3)) all0)) E9) q15_0 (allS (Nat.le_trans E1.1 (Nat.le_of_eq z3)) (allS (Nat.le_trans E1.1 (Nat.le_trans E3.1 q7_1)) all0))) q19_0 (allS (Nat.le_trans E1.1 (Nat.le_of_eq z3)) (allS (Nat.le_trans E1.1 (Nat.le_trans E3.1 q7_1)) all0))) E20) q26_0 (allS (Nat.le_trans E1.1 (Nat.le_of_eq z3)) (allS (Nat.le_trans E1.1 (Nat.le_trans E3.1 q7_1)) all0))) q29_0) E32) q48_0 (allS (Nat.le_of_eq z1) all0)), (Nat.le_of_eq z1), E50, q48_1, q48_2, q48_3, q48_4, q48_5, q48_6, q48_7, S51⟩)
set_option maxRecDepth 65536 in
set_option maxHeartbeats 40000000 in
theorem c_seq (l : Launch) {Z : State} {a0 : Array Value} {n0 : Nat} (hw : ∀ d ∈ tables_1, d.before a0 Z = true) (hEL : EW Z a0 own_EL) {zc : Int32} (hcs : Sta Z Z.heap "java/lang/String" "COMPACT_STRINGS" "Z" (.int zc)) (hcz : ¬ zc = 0) {fm : Value} (hfm : Sta Z Z.heap "jdk/internal/util/Preconditions" "SIOOBE_FORMATTER" "Ljava/util/function/BiFunction;" fm) (hfr : fm.isRef = true) {mo : Addr} (hmo : OwnMir Z "java/lang/Object" mo) {h : Heap} (hO : Old Z n0 h) (s : Addr)  :
    Con [] false l Z own_EL n0 [] (⟨"java/lang/String", "equals", "(Ljava/lang/Object;)Z"⟩ : MethodName) jdk_42_method_66_code 3 (some .boolean) ({ frames := 0, cells := 0, slots := 0, locals := 0 } : Room) #[(.ref s), (.ref s)] h (fun v h' sf => v = some (.int (1 : Int32)) ∧ h = h') := by
  refine Con.intro (Ls := #[.val (.ref s), .val (.ref s), .unset]) pn36 hEL hO (fun m => by first | rfl | (simp [entryFrame, mkF, argsToLocals, Value.category]; done)) fun C vm T hl X hs => ?_
  have X : On C ({ frames := 0, cells := 0, slots := 0, locals := 0 } : Room) "java/lang/String" jdk_42_method_66_code 3 (some .boolean) "equals" false Z a0 own_EL n0 vm T h 0 0 := X
  refine X.aload_n i36_0 rfl rfl ?_
  refine X.aload_n i36_1 rfl rfl ?_
  refine X.acN i36_2 rfl rfl (XT.aa_ne_f rfl) ?_
  refine X.iconst i36_5 (z := (1 : Int32)) rfl ?_
  exact X.ireturn i36_6 (t := .boolean) rfl (by decide) rfl (by decide) (by decide) (fun sf hsf => ⟨rfl, rfl⟩)
set_option maxRecDepth 65536 in
set_option maxHeartbeats 40000000 in
theorem c_des0 (l : Launch) {Z : State} {a0 : Array Value} {n0 : Nat} (hw : ∀ d ∈ tables_1, d.before a0 Z = true) (hEL : EW Z a0 own_EL) {zc : Int32} (hcs : Sta Z Z.heap "java/lang/String" "COMPACT_STRINGS" "Z" (.int zc)) (hcz : ¬ zc = 0) {fm : Value} (hfm : Sta Z Z.heap "jdk/internal/util/Preconditions" "SIOOBE_FORMATTER" "Ljava/util/function/BiFunction;" fm) (hfr : fm.isRef = true) {mo : Addr} (hmo : OwnMir Z "java/lang/Object" mo) {h : Heap} (hO : Old Z n0 h) (s : Addr) (t : Addr) (kb : ClassId) (a : Int32) (b : Int32) (c : Int32) (S_s : Str Z h s t kb [(116 : Int32), (104 : Int32), (101 : Int32), (32 : Int32), (101 : Int32), (110 : Int32), (116 : Int32), (114 : Int32), (121 : Int32), (32 : Int32), (34 : Int32), (34 : Int32)]) :
    Con [] false l Z own_EL n0 [] (⟨"com/example/likeness/likeness/property/ElementsEntryWriterPinLaw", "describes", "(Ljava/lang/String;ICCC)Z"⟩ : MethodName) method_3_code 7 (some .boolean) ({ frames := 4, cells := 0, slots := 0, locals := 53 } : Room) #[(.ref s), (.int (0 : Int32)), (.int a), (.int b), (.int c)] h (fun v h' sf => v = some (.int (1 : Int32)) ∧ h = h') := by
  refine Con.intro (Ls := #[.val (.ref s), .val (.int (0 : Int32)), .val (.int a), .val (.int b), .val (.int c), .unset, .unset]) pn37 hEL hO (fun m => by first | rfl | (simp [entryFrame, mkF, argsToLocals, Value.category]; done)) fun C vm T hl X hs => ?_
  have X : On C ({ frames := 4, cells := 0, slots := 0, locals := 53 } : Room) "com/example/likeness/likeness/property/ElementsEntryWriterPinLaw" method_3_code 7 (some .boolean) "describes" false Z a0 own_EL n0 vm T h 0 0 := X
  refine X.aload_n i37_0 rfl rfl ?_
  refine own_strLen X hw i37_1 (hw _ wd_221) S_s (Nat.le_of_ble_eq_true rfl) hcs hcz rfl (W := 0) rfl (by decide) (by decide) (by decide) (by decide) (z := (12 : Int32)) rfl fun T1 X1 => ?_
  refine X1.bipush i37_4 (z := (12 : Int32)) rfl ?_
  refine X1.iload_n i37_6 rfl ?_
  refine X1.iadd i37_7 (z := (12 : Int32)) rfl ?_
  refine X1.icY i37_8 j8_5 (by decide) ?_
  refine X1.aload_n i37_13 rfl rfl ?_
  refine X1.iconst i37_14 (z := (0 : Int32)) rfl ?_
  refine own_strAt X1 hw i37_15 (hw _ wd_222) S_s (Nat.le_of_ble_eq_true rfl) hcs hcz hfm hfr (i := 0) (Nat.le_of_ble_eq_true rfl) rfl (c := (116 : Int32)) rfl rfl (W := 0) rfl (by decide) (by decide) (by decide) (by decide) fun T2 X2 => ?_
  refine X2.bipush i37_18 (z := (116 : Int32)) rfl ?_
  refine X2.icN i37_20 (by decide) ?_
  refine X2.aload_n i37_23 rfl rfl ?_
  refine X2.iconst i37_24 (z := (1 : Int32)) rfl ?_
  refine own_strAt X2 hw i37_25 (hw _ wd_222) S_s (Nat.le_of_ble_eq_true rfl) hcs hcz hfm hfr (i := 1) (Nat.le_of_ble_eq_true rfl) rfl (c := (104 : Int32)) rfl rfl (W := 0) rfl (by decide) (by decide) (by decide) (by decide) fun T3 X3 => ?_
  refine X3.bipush i37_28 (z := (104 : Int32)) rfl ?_
  refine X3.icN i37_30 (by decide) ?_
  refine X3.aload_n i37_33 rfl rfl ?_
  refine X3.iconst i37_34 (z := (2 : Int32)) rfl ?_
  refine own_strAt X3 hw i37_35 (hw _ wd_222) S_s (Nat.le_of_ble_eq_true rfl) hcs hcz hfm hfr (i := 2) (Nat.le_of_ble_eq_true rfl) rfl (c := (101 : Int32)) rfl rfl (W := 0) rfl (by decide) (by decide) (by decide) (by decide) fun T4 X4 => ?_
  refine X4.bipush i37_38 (z := (101 : Int32)) rfl ?_
  refine X4.icN i37_40 (by decide) ?_
  refine X4.aload_n i37_43 rfl rfl ?_
  refine X4.iconst i37_44 (z := (3 : Int32)) rfl ?_
  refine own_strAt X4 hw i37_45 (hw _ wd_222) S_s (Nat.le_of_ble_eq_true rfl) hcs hcz hfm hfr (i := 3) (Nat.le_of_ble_eq_true rfl) rfl (c := (32 : Int32)) rfl rfl (W := 0) rfl (by decide) (by decide) (by decide) (by decide) fun T5 X5 => ?_
  refine X5.bipush i37_48 (z := (32 : Int32)) rfl ?_
  refine X5.icN i37_50 (by decide) ?_
  refine X5.aload_n i37_53 rfl rfl ?_
  refine X5.iconst i37_54 (z := (4 : Int32)) rfl ?_
  refine own_strAt X5 hw i37_55 (hw _ wd_222) S_s (Nat.le_of_ble_eq_true rfl) hcs hcz hfm hfr (i := 4) (Nat.le_of_ble_eq_true rfl) rfl (c := (101 : Int32)) rfl rfl (W := 0) rfl (by decide) (by decide) (by decide) (by decide) fun T6 X6 => ?_
  refine X6.bipush i37_58 (z := (101 : Int32)) rfl ?_
  refine X6.icN i37_60 (by decide) ?_
  refine X6.aload_n i37_63 rfl rfl ?_
  refine X6.iconst i37_64 (z := (5 : Int32)) rfl ?_
  refine own_strAt X6 hw i37_65 (hw _ wd_222) S_s (Nat.le_of_ble_eq_true rfl) hcs hcz hfm hfr (i := 5) (Nat.le_of_ble_eq_true rfl) rfl (c := (110 : Int32)) rfl rfl (W := 0) rfl (by decide) (by decide) (by decide) (by decide) fun T7 X7 => ?_
  refine X7.bipush i37_68 (z := (110 : Int32)) rfl ?_
  refine X7.icN i37_70 (by decide) ?_
  refine X7.aload_n i37_73 rfl rfl ?_
  refine X7.bipush i37_74 (z := (6 : Int32)) rfl ?_
  refine own_strAt X7 hw i37_76 (hw _ wd_222) S_s (Nat.le_of_ble_eq_true rfl) hcs hcz hfm hfr (i := 6) (Nat.le_of_ble_eq_true rfl) rfl (c := (116 : Int32)) rfl rfl (W := 0) rfl (by decide) (by decide) (by decide) (by decide) fun T8 X8 => ?_
  refine X8.bipush i37_79 (z := (116 : Int32)) rfl ?_
  refine X8.icN i37_81 (by decide) ?_
  refine X8.aload_n i37_84 rfl rfl ?_
  refine X8.bipush i37_85 (z := (7 : Int32)) rfl ?_
  refine own_strAt X8 hw i37_87 (hw _ wd_222) S_s (Nat.le_of_ble_eq_true rfl) hcs hcz hfm hfr (i := 7) (Nat.le_of_ble_eq_true rfl) rfl (c := (114 : Int32)) rfl rfl (W := 0) rfl (by decide) (by decide) (by decide) (by decide) fun T9 X9 => ?_
  refine X9.bipush i37_90 (z := (114 : Int32)) rfl ?_
  refine X9.icN i37_92 (by decide) ?_
  refine X9.aload_n i37_95 rfl rfl ?_
  refine X9.bipush i37_96 (z := (8 : Int32)) rfl ?_
  refine own_strAt X9 hw i37_98 (hw _ wd_222) S_s (Nat.le_of_ble_eq_true rfl) hcs hcz hfm hfr (i := 8) (Nat.le_of_ble_eq_true rfl) rfl (c := (121 : Int32)) rfl rfl (W := 0) rfl (by decide) (by decide) (by decide) (by decide) fun T10 X10 => ?_
  refine X10.bipush i37_101 (z := (121 : Int32)) rfl ?_
  refine X10.icN i37_103 (by decide) ?_
  refine X10.aload_n i37_106 rfl rfl ?_
  refine X10.bipush i37_107 (z := (9 : Int32)) rfl ?_
  refine own_strAt X10 hw i37_109 (hw _ wd_222) S_s (Nat.le_of_ble_eq_true rfl) hcs hcz hfm hfr (i := 9) (Nat.le_of_ble_eq_true rfl) rfl (c := (32 : Int32)) rfl rfl (W := 0) rfl (by decide) (by decide) (by decide) (by decide) fun T11 X11 => ?_
  refine X11.bipush i37_112 (z := (32 : Int32)) rfl ?_
  refine X11.icN i37_114 (by decide) ?_
  refine X11.aload_n i37_117 rfl rfl ?_
  refine X11.bipush i37_118 (z := (10 : Int32)) rfl ?_
  refine own_strAt X11 hw i37_120 (hw _ wd_222) S_s (Nat.le_of_ble_eq_true rfl) hcs hcz hfm hfr (i := 10) (Nat.le_of_ble_eq_true rfl) rfl (c := (34 : Int32)) rfl rfl (W := 0) rfl (by decide) (by decide) (by decide) (by decide) fun T12 X12 => ?_
  refine X12.bipush i37_123 (z := (34 : Int32)) rfl ?_
  refine X12.icN i37_125 (by decide) ?_
  refine X12.iconst i37_128 (z := (1 : Int32)) rfl ?_
  refine X12.goto i37_129 j129_4 ?_
  refine X12.istore i37_133 (Ls' := #[.val (.ref s), .val (.int (0 : Int32)), .val (.int a), .val (.int b), .val (.int c), .val (.int (1 : Int32)), .unset]) rfl ?_
  refine X12.iload_n i37_135 rfl ?_
  refine X12.iconst i37_136 (z := (1 : Int32)) rfl ?_
  refine X12.icY i37_137 j137_13 (by decide) ?_
  refine X12.iload_n i37_150 rfl ?_
  refine X12.iconst i37_151 (z := (2 : Int32)) rfl ?_
  refine X12.icY i37_152 j152_13 (by decide) ?_
  refine X12.iload_n i37_165 rfl ?_
  refine X12.iconst i37_166 (z := (3 : Int32)) rfl ?_
  refine X12.icY i37_167 j167_14 (by decide) ?_
  refine X12.iconst i37_181 (z := (1 : Int32)) rfl ?_
  refine X12.goto i37_182 j182_4 ?_
  refine X12.istore i37_186 (Ls' := #[.val (.ref s), .val (.int (0 : Int32)), .val (.int a), .val (.int b), .val (.int c), .val (.int (1 : Int32)), .val (.int (1 : Int32))]) rfl ?_
  refine X12.iload i37_188 rfl ?_
  refine X12.ifN i37_190 (by decide) ?_
  refine X12.iload i37_193 rfl ?_
  refine X12.ifN i37_195 (by decide) ?_
  refine X12.aload_n i37_198 rfl rfl ?_
  refine X12.bipush i37_199 (z := (11 : Int32)) rfl ?_
  refine X12.iload_n i37_201 rfl ?_
  refine X12.iadd i37_202 (z := (11 : Int32)) rfl ?_
  refine own_strAt X12 hw i37_203 (hw _ wd_222) S_s (Nat.le_of_ble_eq_true rfl) hcs hcz hfm hfr (i := 11) (Nat.le_of_ble_eq_true rfl) rfl (c := (34 : Int32)) rfl rfl (W := 0) rfl (by decide) (by decide) (by decide) (by decide) fun T13 X13 => ?_
  refine X13.bipush i37_206 (z := (34 : Int32)) rfl ?_
  refine X13.icN i37_208 (by decide) ?_
  refine X13.iconst i37_211 (z := (1 : Int32)) rfl ?_
  refine X13.goto i37_212 j212_4 ?_
  exact X13.ireturn i37_216 (t := .boolean) rfl (by decide) rfl (by decide) (by decide) (fun sf hsf => ⟨rfl, rfl⟩)
set_option maxRecDepth 65536 in
set_option maxHeartbeats 40000000 in
theorem c_des1 (l : Launch) {Z : State} {a0 : Array Value} {n0 : Nat} (hw : ∀ d ∈ tables_1, d.before a0 Z = true) (hEL : EW Z a0 own_EL) {zc : Int32} (hcs : Sta Z Z.heap "java/lang/String" "COMPACT_STRINGS" "Z" (.int zc)) (hcz : ¬ zc = 0) {fm : Value} (hfm : Sta Z Z.heap "jdk/internal/util/Preconditions" "SIOOBE_FORMATTER" "Ljava/util/function/BiFunction;" fm) (hfr : fm.isRef = true) {mo : Addr} (hmo : OwnMir Z "java/lang/Object" mo) {h : Heap} (hO : Old Z n0 h) (s : Addr) (t : Addr) (kb : ClassId) (a : Int32) (b : Int32) (c : Int32) (S_s : Str Z h s t kb [(116 : Int32), (104 : Int32), (101 : Int32), (32 : Int32), (101 : Int32), (110 : Int32), (116 : Int32), (114 : Int32), (121 : Int32), (32 : Int32), (34 : Int32), a, (34 : Int32)]) :
    Con [] false l Z own_EL n0 [] (⟨"com/example/likeness/likeness/property/ElementsEntryWriterPinLaw", "describes", "(Ljava/lang/String;ICCC)Z"⟩ : MethodName) method_3_code 7 (some .boolean) ({ frames := 4, cells := 0, slots := 0, locals := 53 } : Room) #[(.ref s), (.int (1 : Int32)), (.int a), (.int b), (.int c)] h (fun v h' sf => v = some (.int (1 : Int32)) ∧ h = h') := by
  refine Con.intro (Ls := #[.val (.ref s), .val (.int (1 : Int32)), .val (.int a), .val (.int b), .val (.int c), .unset, .unset]) pn37 hEL hO (fun m => by first | rfl | (simp [entryFrame, mkF, argsToLocals, Value.category]; done)) fun C vm T hl X hs => ?_
  have X : On C ({ frames := 4, cells := 0, slots := 0, locals := 53 } : Room) "com/example/likeness/likeness/property/ElementsEntryWriterPinLaw" method_3_code 7 (some .boolean) "describes" false Z a0 own_EL n0 vm T h 0 0 := X
  refine X.aload_n i37_0 rfl rfl ?_
  refine own_strLen X hw i37_1 (hw _ wd_221) S_s (Nat.le_of_ble_eq_true rfl) hcs hcz rfl (W := 0) rfl (by decide) (by decide) (by decide) (by decide) (z := (13 : Int32)) rfl fun T1 X1 => ?_
  refine X1.bipush i37_4 (z := (12 : Int32)) rfl ?_
  refine X1.iload_n i37_6 rfl ?_
  refine X1.iadd i37_7 (z := (13 : Int32)) rfl ?_
  refine X1.icY i37_8 j8_5 (by decide) ?_
  refine X1.aload_n i37_13 rfl rfl ?_
  refine X1.iconst i37_14 (z := (0 : Int32)) rfl ?_
  refine own_strAt X1 hw i37_15 (hw _ wd_222) S_s (Nat.le_of_ble_eq_true rfl) hcs hcz hfm hfr (i := 0) (Nat.le_of_ble_eq_true rfl) rfl (c := (116 : Int32)) rfl rfl (W := 0) rfl (by decide) (by decide) (by decide) (by decide) fun T2 X2 => ?_
  refine X2.bipush i37_18 (z := (116 : Int32)) rfl ?_
  refine X2.icN i37_20 (by decide) ?_
  refine X2.aload_n i37_23 rfl rfl ?_
  refine X2.iconst i37_24 (z := (1 : Int32)) rfl ?_
  refine own_strAt X2 hw i37_25 (hw _ wd_222) S_s (Nat.le_of_ble_eq_true rfl) hcs hcz hfm hfr (i := 1) (Nat.le_of_ble_eq_true rfl) rfl (c := (104 : Int32)) rfl rfl (W := 0) rfl (by decide) (by decide) (by decide) (by decide) fun T3 X3 => ?_
  refine X3.bipush i37_28 (z := (104 : Int32)) rfl ?_
  refine X3.icN i37_30 (by decide) ?_
  refine X3.aload_n i37_33 rfl rfl ?_
  refine X3.iconst i37_34 (z := (2 : Int32)) rfl ?_
  refine own_strAt X3 hw i37_35 (hw _ wd_222) S_s (Nat.le_of_ble_eq_true rfl) hcs hcz hfm hfr (i := 2) (Nat.le_of_ble_eq_true rfl) rfl (c := (101 : Int32)) rfl rfl (W := 0) rfl (by decide) (by decide) (by decide) (by decide) fun T4 X4 => ?_
  refine X4.bipush i37_38 (z := (101 : Int32)) rfl ?_
  refine X4.icN i37_40 (by decide) ?_
  refine X4.aload_n i37_43 rfl rfl ?_
  refine X4.iconst i37_44 (z := (3 : Int32)) rfl ?_
  refine own_strAt X4 hw i37_45 (hw _ wd_222) S_s (Nat.le_of_ble_eq_true rfl) hcs hcz hfm hfr (i := 3) (Nat.le_of_ble_eq_true rfl) rfl (c := (32 : Int32)) rfl rfl (W := 0) rfl (by decide) (by decide) (by decide) (by decide) fun T5 X5 => ?_
  refine X5.bipush i37_48 (z := (32 : Int32)) rfl ?_
  refine X5.icN i37_50 (by decide) ?_
  refine X5.aload_n i37_53 rfl rfl ?_
  refine X5.iconst i37_54 (z := (4 : Int32)) rfl ?_
  refine own_strAt X5 hw i37_55 (hw _ wd_222) S_s (Nat.le_of_ble_eq_true rfl) hcs hcz hfm hfr (i := 4) (Nat.le_of_ble_eq_true rfl) rfl (c := (101 : Int32)) rfl rfl (W := 0) rfl (by decide) (by decide) (by decide) (by decide) fun T6 X6 => ?_
  refine X6.bipush i37_58 (z := (101 : Int32)) rfl ?_
  refine X6.icN i37_60 (by decide) ?_
  refine X6.aload_n i37_63 rfl rfl ?_
  refine X6.iconst i37_64 (z := (5 : Int32)) rfl ?_
  refine own_strAt X6 hw i37_65 (hw _ wd_222) S_s (Nat.le_of_ble_eq_true rfl) hcs hcz hfm hfr (i := 5) (Nat.le_of_ble_eq_true rfl) rfl (c := (110 : Int32)) rfl rfl (W := 0) rfl (by decide) (by decide) (by decide) (by decide) fun T7 X7 => ?_
  refine X7.bipush i37_68 (z := (110 : Int32)) rfl ?_
  refine X7.icN i37_70 (by decide) ?_
  refine X7.aload_n i37_73 rfl rfl ?_
  refine X7.bipush i37_74 (z := (6 : Int32)) rfl ?_
  refine own_strAt X7 hw i37_76 (hw _ wd_222) S_s (Nat.le_of_ble_eq_true rfl) hcs hcz hfm hfr (i := 6) (Nat.le_of_ble_eq_true rfl) rfl (c := (116 : Int32)) rfl rfl (W := 0) rfl (by decide) (by decide) (by decide) (by decide) fun T8 X8 => ?_
  refine X8.bipush i37_79 (z := (116 : Int32)) rfl ?_
  refine X8.icN i37_81 (by decide) ?_
  refine X8.aload_n i37_84 rfl rfl ?_
  refine X8.bipush i37_85 (z := (7 : Int32)) rfl ?_
  refine own_strAt X8 hw i37_87 (hw _ wd_222) S_s (Nat.le_of_ble_eq_true rfl) hcs hcz hfm hfr (i := 7) (Nat.le_of_ble_eq_true rfl) rfl (c := (114 : Int32)) rfl rfl (W := 0) rfl (by decide) (by decide) (by decide) (by decide) fun T9 X9 => ?_
  refine X9.bipush i37_90 (z := (114 : Int32)) rfl ?_
  refine X9.icN i37_92 (by decide) ?_
  refine X9.aload_n i37_95 rfl rfl ?_
  refine X9.bipush i37_96 (z := (8 : Int32)) rfl ?_
  refine own_strAt X9 hw i37_98 (hw _ wd_222) S_s (Nat.le_of_ble_eq_true rfl) hcs hcz hfm hfr (i := 8) (Nat.le_of_ble_eq_true rfl) rfl (c := (121 : Int32)) rfl rfl (W := 0) rfl (by decide) (by decide) (by decide) (by decide) fun T10 X10 => ?_
  refine X10.bipush i37_101 (z := (121 : Int32)) rfl ?_
  refine X10.icN i37_103 (by decide) ?_
  refine X10.aload_n i37_106 rfl rfl ?_
  refine X10.bipush i37_107 (z := (9 : Int32)) rfl ?_
  refine own_strAt X10 hw i37_109 (hw _ wd_222) S_s (Nat.le_of_ble_eq_true rfl) hcs hcz hfm hfr (i := 9) (Nat.le_of_ble_eq_true rfl) rfl (c := (32 : Int32)) rfl rfl (W := 0) rfl (by decide) (by decide) (by decide) (by decide) fun T11 X11 => ?_
  refine X11.bipush i37_112 (z := (32 : Int32)) rfl ?_
  refine X11.icN i37_114 (by decide) ?_
  refine X11.aload_n i37_117 rfl rfl ?_
  refine X11.bipush i37_118 (z := (10 : Int32)) rfl ?_
  refine own_strAt X11 hw i37_120 (hw _ wd_222) S_s (Nat.le_of_ble_eq_true rfl) hcs hcz hfm hfr (i := 10) (Nat.le_of_ble_eq_true rfl) rfl (c := (34 : Int32)) rfl rfl (W := 0) rfl (by decide) (by decide) (by decide) (by decide) fun T12 X12 => ?_
  refine X12.bipush i37_123 (z := (34 : Int32)) rfl ?_
  refine X12.icN i37_125 (by decide) ?_
  refine X12.iconst i37_128 (z := (1 : Int32)) rfl ?_
  refine X12.goto i37_129 j129_4 ?_
  refine X12.istore i37_133 (Ls' := #[.val (.ref s), .val (.int (1 : Int32)), .val (.int a), .val (.int b), .val (.int c), .val (.int (1 : Int32)), .unset]) rfl ?_
  refine X12.iload_n i37_135 rfl ?_
  refine X12.iconst i37_136 (z := (1 : Int32)) rfl ?_
  refine X12.icN i37_137 (by decide) ?_
  refine X12.aload_n i37_140 rfl rfl ?_
  refine X12.bipush i37_141 (z := (11 : Int32)) rfl ?_
  refine own_strAt X12 hw i37_143 (hw _ wd_222) S_s (Nat.le_of_ble_eq_true rfl) hcs hcz hfm hfr (i := 11) (Nat.le_of_ble_eq_true rfl) rfl (c := a) rfl rfl (W := 0) rfl (by decide) (by decide) (by decide) (by decide) fun T13 X13 => ?_
  refine X13.iload_n i37_146 rfl ?_
  refine X13.icN i37_147 (teq rfl).2 ?_
  refine X13.iload_n i37_150 rfl ?_
  refine X13.iconst i37_151 (z := (2 : Int32)) rfl ?_
  refine X13.icY i37_152 j152_13 (by decide) ?_
  refine X13.iload_n i37_165 rfl ?_
  refine X13.iconst i37_166 (z := (3 : Int32)) rfl ?_
  refine X13.icY i37_167 j167_14 (by decide) ?_
  refine X13.iconst i37_181 (z := (1 : Int32)) rfl ?_
  refine X13.goto i37_182 j182_4 ?_
  refine X13.istore i37_186 (Ls' := #[.val (.ref s), .val (.int (1 : Int32)), .val (.int a), .val (.int b), .val (.int c), .val (.int (1 : Int32)), .val (.int (1 : Int32))]) rfl ?_
  refine X13.iload i37_188 rfl ?_
  refine X13.ifN i37_190 (by decide) ?_
  refine X13.iload i37_193 rfl ?_
  refine X13.ifN i37_195 (by decide) ?_
  refine X13.aload_n i37_198 rfl rfl ?_
  refine X13.bipush i37_199 (z := (11 : Int32)) rfl ?_
  refine X13.iload_n i37_201 rfl ?_
  refine X13.iadd i37_202 (z := (12 : Int32)) rfl ?_
  refine own_strAt X13 hw i37_203 (hw _ wd_222) S_s (Nat.le_of_ble_eq_true rfl) hcs hcz hfm hfr (i := 12) (Nat.le_of_ble_eq_true rfl) rfl (c := (34 : Int32)) rfl rfl (W := 0) rfl (by decide) (by decide) (by decide) (by decide) fun T14 X14 => ?_
  refine X14.bipush i37_206 (z := (34 : Int32)) rfl ?_
  refine X14.icN i37_208 (by decide) ?_
  refine X14.iconst i37_211 (z := (1 : Int32)) rfl ?_
  refine X14.goto i37_212 j212_4 ?_
  exact X14.ireturn i37_216 (t := .boolean) rfl (by decide) rfl (by decide) (by decide) (fun sf hsf => ⟨rfl, rfl⟩)
set_option maxRecDepth 65536 in
set_option maxHeartbeats 40000000 in
theorem c_des2 (l : Launch) {Z : State} {a0 : Array Value} {n0 : Nat} (hw : ∀ d ∈ tables_1, d.before a0 Z = true) (hEL : EW Z a0 own_EL) {zc : Int32} (hcs : Sta Z Z.heap "java/lang/String" "COMPACT_STRINGS" "Z" (.int zc)) (hcz : ¬ zc = 0) {fm : Value} (hfm : Sta Z Z.heap "jdk/internal/util/Preconditions" "SIOOBE_FORMATTER" "Ljava/util/function/BiFunction;" fm) (hfr : fm.isRef = true) {mo : Addr} (hmo : OwnMir Z "java/lang/Object" mo) {h : Heap} (hO : Old Z n0 h) (s : Addr) (t : Addr) (kb : ClassId) (a : Int32) (b : Int32) (c : Int32) (S_s : Str Z h s t kb [(116 : Int32), (104 : Int32), (101 : Int32), (32 : Int32), (101 : Int32), (110 : Int32), (116 : Int32), (114 : Int32), (121 : Int32), (32 : Int32), (34 : Int32), a, b, (34 : Int32)]) :
    Con [] false l Z own_EL n0 [] (⟨"com/example/likeness/likeness/property/ElementsEntryWriterPinLaw", "describes", "(Ljava/lang/String;ICCC)Z"⟩ : MethodName) method_3_code 7 (some .boolean) ({ frames := 4, cells := 0, slots := 0, locals := 53 } : Room) #[(.ref s), (.int (2 : Int32)), (.int a), (.int b), (.int c)] h (fun v h' sf => v = some (.int (1 : Int32)) ∧ h = h') := by
  refine Con.intro (Ls := #[.val (.ref s), .val (.int (2 : Int32)), .val (.int a), .val (.int b), .val (.int c), .unset, .unset]) pn37 hEL hO (fun m => by first | rfl | (simp [entryFrame, mkF, argsToLocals, Value.category]; done)) fun C vm T hl X hs => ?_
  have X : On C ({ frames := 4, cells := 0, slots := 0, locals := 53 } : Room) "com/example/likeness/likeness/property/ElementsEntryWriterPinLaw" method_3_code 7 (some .boolean) "describes" false Z a0 own_EL n0 vm T h 0 0 := X
  refine X.aload_n i37_0 rfl rfl ?_
  refine own_strLen X hw i37_1 (hw _ wd_221) S_s (Nat.le_of_ble_eq_true rfl) hcs hcz rfl (W := 0) rfl (by decide) (by decide) (by decide) (by decide) (z := (14 : Int32)) rfl fun T1 X1 => ?_
  refine X1.bipush i37_4 (z := (12 : Int32)) rfl ?_
  refine X1.iload_n i37_6 rfl ?_
  refine X1.iadd i37_7 (z := (14 : Int32)) rfl ?_
  refine X1.icY i37_8 j8_5 (by decide) ?_
  refine X1.aload_n i37_13 rfl rfl ?_
  refine X1.iconst i37_14 (z := (0 : Int32)) rfl ?_
  refine own_strAt X1 hw i37_15 (hw _ wd_222) S_s (Nat.le_of_ble_eq_true rfl) hcs hcz hfm hfr (i := 0) (Nat.le_of_ble_eq_true rfl) rfl (c := (116 : Int32)) rfl rfl (W := 0) rfl (by decide) (by decide) (by decide) (by decide) fun T2 X2 => ?_
  refine X2.bipush i37_18 (z := (116 : Int32)) rfl ?_
  refine X2.icN i37_20 (by decide) ?_
  refine X2.aload_n i37_23 rfl rfl ?_
  refine X2.iconst i37_24 (z := (1 : Int32)) rfl ?_
  refine own_strAt X2 hw i37_25 (hw _ wd_222) S_s (Nat.le_of_ble_eq_true rfl) hcs hcz hfm hfr (i := 1) (Nat.le_of_ble_eq_true rfl) rfl (c := (104 : Int32)) rfl rfl (W := 0) rfl (by decide) (by decide) (by decide) (by decide) fun T3 X3 => ?_
  refine X3.bipush i37_28 (z := (104 : Int32)) rfl ?_
  refine X3.icN i37_30 (by decide) ?_
  refine X3.aload_n i37_33 rfl rfl ?_
  refine X3.iconst i37_34 (z := (2 : Int32)) rfl ?_
  refine own_strAt X3 hw i37_35 (hw _ wd_222) S_s (Nat.le_of_ble_eq_true rfl) hcs hcz hfm hfr (i := 2) (Nat.le_of_ble_eq_true rfl) rfl (c := (101 : Int32)) rfl rfl (W := 0) rfl (by decide) (by decide) (by decide) (by decide) fun T4 X4 => ?_
  refine X4.bipush i37_38 (z := (101 : Int32)) rfl ?_
  refine X4.icN i37_40 (by decide) ?_
  refine X4.aload_n i37_43 rfl rfl ?_
  refine X4.iconst i37_44 (z := (3 : Int32)) rfl ?_
  refine own_strAt X4 hw i37_45 (hw _ wd_222) S_s (Nat.le_of_ble_eq_true rfl) hcs hcz hfm hfr (i := 3) (Nat.le_of_ble_eq_true rfl) rfl (c := (32 : Int32)) rfl rfl (W := 0) rfl (by decide) (by decide) (by decide) (by decide) fun T5 X5 => ?_
  refine X5.bipush i37_48 (z := (32 : Int32)) rfl ?_
  refine X5.icN i37_50 (by decide) ?_
  refine X5.aload_n i37_53 rfl rfl ?_
  refine X5.iconst i37_54 (z := (4 : Int32)) rfl ?_
  refine own_strAt X5 hw i37_55 (hw _ wd_222) S_s (Nat.le_of_ble_eq_true rfl) hcs hcz hfm hfr (i := 4) (Nat.le_of_ble_eq_true rfl) rfl (c := (101 : Int32)) rfl rfl (W := 0) rfl (by decide) (by decide) (by decide) (by decide) fun T6 X6 => ?_
  refine X6.bipush i37_58 (z := (101 : Int32)) rfl ?_
  refine X6.icN i37_60 (by decide) ?_
  refine X6.aload_n i37_63 rfl rfl ?_
  refine X6.iconst i37_64 (z := (5 : Int32)) rfl ?_
  refine own_strAt X6 hw i37_65 (hw _ wd_222) S_s (Nat.le_of_ble_eq_true rfl) hcs hcz hfm hfr (i := 5) (Nat.le_of_ble_eq_true rfl) rfl (c := (110 : Int32)) rfl rfl (W := 0) rfl (by decide) (by decide) (by decide) (by decide) fun T7 X7 => ?_
  refine X7.bipush i37_68 (z := (110 : Int32)) rfl ?_
  refine X7.icN i37_70 (by decide) ?_
  refine X7.aload_n i37_73 rfl rfl ?_
  refine X7.bipush i37_74 (z := (6 : Int32)) rfl ?_
  refine own_strAt X7 hw i37_76 (hw _ wd_222) S_s (Nat.le_of_ble_eq_true rfl) hcs hcz hfm hfr (i := 6) (Nat.le_of_ble_eq_true rfl) rfl (c := (116 : Int32)) rfl rfl (W := 0) rfl (by decide) (by decide) (by decide) (by decide) fun T8 X8 => ?_
  refine X8.bipush i37_79 (z := (116 : Int32)) rfl ?_
  refine X8.icN i37_81 (by decide) ?_
  refine X8.aload_n i37_84 rfl rfl ?_
  refine X8.bipush i37_85 (z := (7 : Int32)) rfl ?_
  refine own_strAt X8 hw i37_87 (hw _ wd_222) S_s (Nat.le_of_ble_eq_true rfl) hcs hcz hfm hfr (i := 7) (Nat.le_of_ble_eq_true rfl) rfl (c := (114 : Int32)) rfl rfl (W := 0) rfl (by decide) (by decide) (by decide) (by decide) fun T9 X9 => ?_
  refine X9.bipush i37_90 (z := (114 : Int32)) rfl ?_
  refine X9.icN i37_92 (by decide) ?_
  refine X9.aload_n i37_95 rfl rfl ?_
  refine X9.bipush i37_96 (z := (8 : Int32)) rfl ?_
  refine own_strAt X9 hw i37_98 (hw _ wd_222) S_s (Nat.le_of_ble_eq_true rfl) hcs hcz hfm hfr (i := 8) (Nat.le_of_ble_eq_true rfl) rfl (c := (121 : Int32)) rfl rfl (W := 0) rfl (by decide) (by decide) (by decide) (by decide) fun T10 X10 => ?_
  refine X10.bipush i37_101 (z := (121 : Int32)) rfl ?_
  refine X10.icN i37_103 (by decide) ?_
  refine X10.aload_n i37_106 rfl rfl ?_
  refine X10.bipush i37_107 (z := (9 : Int32)) rfl ?_
  refine own_strAt X10 hw i37_109 (hw _ wd_222) S_s (Nat.le_of_ble_eq_true rfl) hcs hcz hfm hfr (i := 9) (Nat.le_of_ble_eq_true rfl) rfl (c := (32 : Int32)) rfl rfl (W := 0) rfl (by decide) (by decide) (by decide) (by decide) fun T11 X11 => ?_
  refine X11.bipush i37_112 (z := (32 : Int32)) rfl ?_
  refine X11.icN i37_114 (by decide) ?_
  refine X11.aload_n i37_117 rfl rfl ?_
  refine X11.bipush i37_118 (z := (10 : Int32)) rfl ?_
  refine own_strAt X11 hw i37_120 (hw _ wd_222) S_s (Nat.le_of_ble_eq_true rfl) hcs hcz hfm hfr (i := 10) (Nat.le_of_ble_eq_true rfl) rfl (c := (34 : Int32)) rfl rfl (W := 0) rfl (by decide) (by decide) (by decide) (by decide) fun T12 X12 => ?_
  refine X12.bipush i37_123 (z := (34 : Int32)) rfl ?_
  refine X12.icN i37_125 (by decide) ?_
  refine X12.iconst i37_128 (z := (1 : Int32)) rfl ?_
  refine X12.goto i37_129 j129_4 ?_
  refine X12.istore i37_133 (Ls' := #[.val (.ref s), .val (.int (2 : Int32)), .val (.int a), .val (.int b), .val (.int c), .val (.int (1 : Int32)), .unset]) rfl ?_
  refine X12.iload_n i37_135 rfl ?_
  refine X12.iconst i37_136 (z := (1 : Int32)) rfl ?_
  refine X12.icN i37_137 (by decide) ?_
  refine X12.aload_n i37_140 rfl rfl ?_
  refine X12.bipush i37_141 (z := (11 : Int32)) rfl ?_
  refine own_strAt X12 hw i37_143 (hw _ wd_222) S_s (Nat.le_of_ble_eq_true rfl) hcs hcz hfm hfr (i := 11) (Nat.le_of_ble_eq_true rfl) rfl (c := a) rfl rfl (W := 0) rfl (by decide) (by decide) (by decide) (by decide) fun T13 X13 => ?_
  refine X13.iload_n i37_146 rfl ?_
  refine X13.icN i37_147 (teq rfl).2 ?_
  refine X13.iload_n i37_150 rfl ?_
  refine X13.iconst i37_151 (z := (2 : Int32)) rfl ?_
  refine X13.icN i37_152 (by decide) ?_
  refine X13.aload_n i37_155 rfl rfl ?_
  refine X13.bipush i37_156 (z := (12 : Int32)) rfl ?_
  refine own_strAt X13 hw i37_158 (hw _ wd_222) S_s (Nat.le_of_ble_eq_true rfl) hcs hcz hfm hfr (i := 12) (Nat.le_of_ble_eq_true rfl) rfl (c := b) rfl rfl (W := 0) rfl (by decide) (by decide) (by decide) (by decide) fun T14 X14 => ?_
  refine X14.iload_n i37_161 rfl ?_
  refine X14.icN i37_162 (teq rfl).2 ?_
  refine X14.iload_n i37_165 rfl ?_
  refine X14.iconst i37_166 (z := (3 : Int32)) rfl ?_
  refine X14.icY i37_167 j167_14 (by decide) ?_
  refine X14.iconst i37_181 (z := (1 : Int32)) rfl ?_
  refine X14.goto i37_182 j182_4 ?_
  refine X14.istore i37_186 (Ls' := #[.val (.ref s), .val (.int (2 : Int32)), .val (.int a), .val (.int b), .val (.int c), .val (.int (1 : Int32)), .val (.int (1 : Int32))]) rfl ?_
  refine X14.iload i37_188 rfl ?_
  refine X14.ifN i37_190 (by decide) ?_
  refine X14.iload i37_193 rfl ?_
  refine X14.ifN i37_195 (by decide) ?_
  refine X14.aload_n i37_198 rfl rfl ?_
  refine X14.bipush i37_199 (z := (11 : Int32)) rfl ?_
  refine X14.iload_n i37_201 rfl ?_
  refine X14.iadd i37_202 (z := (13 : Int32)) rfl ?_
  refine own_strAt X14 hw i37_203 (hw _ wd_222) S_s (Nat.le_of_ble_eq_true rfl) hcs hcz hfm hfr (i := 13) (Nat.le_of_ble_eq_true rfl) rfl (c := (34 : Int32)) rfl rfl (W := 0) rfl (by decide) (by decide) (by decide) (by decide) fun T15 X15 => ?_
  refine X15.bipush i37_206 (z := (34 : Int32)) rfl ?_
  refine X15.icN i37_208 (by decide) ?_
  refine X15.iconst i37_211 (z := (1 : Int32)) rfl ?_
  refine X15.goto i37_212 j212_4 ?_
  exact X15.ireturn i37_216 (t := .boolean) rfl (by decide) rfl (by decide) (by decide) (fun sf hsf => ⟨rfl, rfl⟩)
set_option maxRecDepth 65536 in
set_option maxHeartbeats 40000000 in
theorem c_des3 (l : Launch) {Z : State} {a0 : Array Value} {n0 : Nat} (hw : ∀ d ∈ tables_1, d.before a0 Z = true) (hEL : EW Z a0 own_EL) {zc : Int32} (hcs : Sta Z Z.heap "java/lang/String" "COMPACT_STRINGS" "Z" (.int zc)) (hcz : ¬ zc = 0) {fm : Value} (hfm : Sta Z Z.heap "jdk/internal/util/Preconditions" "SIOOBE_FORMATTER" "Ljava/util/function/BiFunction;" fm) (hfr : fm.isRef = true) {mo : Addr} (hmo : OwnMir Z "java/lang/Object" mo) {h : Heap} (hO : Old Z n0 h) (s : Addr) (t : Addr) (kb : ClassId) (a : Int32) (b : Int32) (c : Int32) (S_s : Str Z h s t kb [(116 : Int32), (104 : Int32), (101 : Int32), (32 : Int32), (101 : Int32), (110 : Int32), (116 : Int32), (114 : Int32), (121 : Int32), (32 : Int32), (34 : Int32), a, b, c, (34 : Int32)]) :
    Con [] false l Z own_EL n0 [] (⟨"com/example/likeness/likeness/property/ElementsEntryWriterPinLaw", "describes", "(Ljava/lang/String;ICCC)Z"⟩ : MethodName) method_3_code 7 (some .boolean) ({ frames := 4, cells := 0, slots := 0, locals := 53 } : Room) #[(.ref s), (.int (3 : Int32)), (.int a), (.int b), (.int c)] h (fun v h' sf => v = some (.int (1 : Int32)) ∧ h = h') := by
  refine Con.intro (Ls := #[.val (.ref s), .val (.int (3 : Int32)), .val (.int a), .val (.int b), .val (.int c), .unset, .unset]) pn37 hEL hO (fun m => by first | rfl | (simp [entryFrame, mkF, argsToLocals, Value.category]; done)) fun C vm T hl X hs => ?_
  have X : On C ({ frames := 4, cells := 0, slots := 0, locals := 53 } : Room) "com/example/likeness/likeness/property/ElementsEntryWriterPinLaw" method_3_code 7 (some .boolean) "describes" false Z a0 own_EL n0 vm T h 0 0 := X
  refine X.aload_n i37_0 rfl rfl ?_
  refine own_strLen X hw i37_1 (hw _ wd_221) S_s (Nat.le_of_ble_eq_true rfl) hcs hcz rfl (W := 0) rfl (by decide) (by decide) (by decide) (by decide) (z := (15 : Int32)) rfl fun T1 X1 => ?_
  refine X1.bipush i37_4 (z := (12 : Int32)) rfl ?_
  refine X1.iload_n i37_6 rfl ?_
  refine X1.iadd i37_7 (z := (15 : Int32)) rfl ?_
  refine X1.icY i37_8 j8_5 (by decide) ?_
  refine X1.aload_n i37_13 rfl rfl ?_
  refine X1.iconst i37_14 (z := (0 : Int32)) rfl ?_
  refine own_strAt X1 hw i37_15 (hw _ wd_222) S_s (Nat.le_of_ble_eq_true rfl) hcs hcz hfm hfr (i := 0) (Nat.le_of_ble_eq_true rfl) rfl (c := (116 : Int32)) rfl rfl (W := 0) rfl (by decide) (by decide) (by decide) (by decide) fun T2 X2 => ?_
  refine X2.bipush i37_18 (z := (116 : Int32)) rfl ?_
  refine X2.icN i37_20 (by decide) ?_
  refine X2.aload_n i37_23 rfl rfl ?_
  refine X2.iconst i37_24 (z := (1 : Int32)) rfl ?_
  refine own_strAt X2 hw i37_25 (hw _ wd_222) S_s (Nat.le_of_ble_eq_true rfl) hcs hcz hfm hfr (i := 1) (Nat.le_of_ble_eq_true rfl) rfl (c := (104 : Int32)) rfl rfl (W := 0) rfl (by decide) (by decide) (by decide) (by decide) fun T3 X3 => ?_
  refine X3.bipush i37_28 (z := (104 : Int32)) rfl ?_
  refine X3.icN i37_30 (by decide) ?_
  refine X3.aload_n i37_33 rfl rfl ?_
  refine X3.iconst i37_34 (z := (2 : Int32)) rfl ?_
  refine own_strAt X3 hw i37_35 (hw _ wd_222) S_s (Nat.le_of_ble_eq_true rfl) hcs hcz hfm hfr (i := 2) (Nat.le_of_ble_eq_true rfl) rfl (c := (101 : Int32)) rfl rfl (W := 0) rfl (by decide) (by decide) (by decide) (by decide) fun T4 X4 => ?_
  refine X4.bipush i37_38 (z := (101 : Int32)) rfl ?_
  refine X4.icN i37_40 (by decide) ?_
  refine X4.aload_n i37_43 rfl rfl ?_
  refine X4.iconst i37_44 (z := (3 : Int32)) rfl ?_
  refine own_strAt X4 hw i37_45 (hw _ wd_222) S_s (Nat.le_of_ble_eq_true rfl) hcs hcz hfm hfr (i := 3) (Nat.le_of_ble_eq_true rfl) rfl (c := (32 : Int32)) rfl rfl (W := 0) rfl (by decide) (by decide) (by decide) (by decide) fun T5 X5 => ?_
  refine X5.bipush i37_48 (z := (32 : Int32)) rfl ?_
  refine X5.icN i37_50 (by decide) ?_
  refine X5.aload_n i37_53 rfl rfl ?_
  refine X5.iconst i37_54 (z := (4 : Int32)) rfl ?_
  refine own_strAt X5 hw i37_55 (hw _ wd_222) S_s (Nat.le_of_ble_eq_true rfl) hcs hcz hfm hfr (i := 4) (Nat.le_of_ble_eq_true rfl) rfl (c := (101 : Int32)) rfl rfl (W := 0) rfl (by decide) (by decide) (by decide) (by decide) fun T6 X6 => ?_
  refine X6.bipush i37_58 (z := (101 : Int32)) rfl ?_
  refine X6.icN i37_60 (by decide) ?_
  refine X6.aload_n i37_63 rfl rfl ?_
  refine X6.iconst i37_64 (z := (5 : Int32)) rfl ?_
  refine own_strAt X6 hw i37_65 (hw _ wd_222) S_s (Nat.le_of_ble_eq_true rfl) hcs hcz hfm hfr (i := 5) (Nat.le_of_ble_eq_true rfl) rfl (c := (110 : Int32)) rfl rfl (W := 0) rfl (by decide) (by decide) (by decide) (by decide) fun T7 X7 => ?_
  refine X7.bipush i37_68 (z := (110 : Int32)) rfl ?_
  refine X7.icN i37_70 (by decide) ?_
  refine X7.aload_n i37_73 rfl rfl ?_
  refine X7.bipush i37_74 (z := (6 : Int32)) rfl ?_
  refine own_strAt X7 hw i37_76 (hw _ wd_222) S_s (Nat.le_of_ble_eq_true rfl) hcs hcz hfm hfr (i := 6) (Nat.le_of_ble_eq_true rfl) rfl (c := (116 : Int32)) rfl rfl (W := 0) rfl (by decide) (by decide) (by decide) (by decide) fun T8 X8 => ?_
  refine X8.bipush i37_79 (z := (116 : Int32)) rfl ?_
  refine X8.icN i37_81 (by decide) ?_
  refine X8.aload_n i37_84 rfl rfl ?_
  refine X8.bipush i37_85 (z := (7 : Int32)) rfl ?_
  refine own_strAt X8 hw i37_87 (hw _ wd_222) S_s (Nat.le_of_ble_eq_true rfl) hcs hcz hfm hfr (i := 7) (Nat.le_of_ble_eq_true rfl) rfl (c := (114 : Int32)) rfl rfl (W := 0) rfl (by decide) (by decide) (by decide) (by decide) fun T9 X9 => ?_
  refine X9.bipush i37_90 (z := (114 : Int32)) rfl ?_
  refine X9.icN i37_92 (by decide) ?_
  refine X9.aload_n i37_95 rfl rfl ?_
  refine X9.bipush i37_96 (z := (8 : Int32)) rfl ?_
  refine own_strAt X9 hw i37_98 (hw _ wd_222) S_s (Nat.le_of_ble_eq_true rfl) hcs hcz hfm hfr (i := 8) (Nat.le_of_ble_eq_true rfl) rfl (c := (121 : Int32)) rfl rfl (W := 0) rfl (by decide) (by decide) (by decide) (by decide) fun T10 X10 => ?_
  refine X10.bipush i37_101 (z := (121 : Int32)) rfl ?_
  refine X10.icN i37_103 (by decide) ?_
  refine X10.aload_n i37_106 rfl rfl ?_
  refine X10.bipush i37_107 (z := (9 : Int32)) rfl ?_
  refine own_strAt X10 hw i37_109 (hw _ wd_222) S_s (Nat.le_of_ble_eq_true rfl) hcs hcz hfm hfr (i := 9) (Nat.le_of_ble_eq_true rfl) rfl (c := (32 : Int32)) rfl rfl (W := 0) rfl (by decide) (by decide) (by decide) (by decide) fun T11 X11 => ?_
  refine X11.bipush i37_112 (z := (32 : Int32)) rfl ?_
  refine X11.icN i37_114 (by decide) ?_
  refine X11.aload_n i37_117 rfl rfl ?_
  refine X11.bipush i37_118 (z := (10 : Int32)) rfl ?_
  refine own_strAt X11 hw i37_120 (hw _ wd_222) S_s (Nat.le_of_ble_eq_true rfl) hcs hcz hfm hfr (i := 10) (Nat.le_of_ble_eq_true rfl) rfl (c := (34 : Int32)) rfl rfl (W := 0) rfl (by decide) (by decide) (by decide) (by decide) fun T12 X12 => ?_
  refine X12.bipush i37_123 (z := (34 : Int32)) rfl ?_
  refine X12.icN i37_125 (by decide) ?_
  refine X12.iconst i37_128 (z := (1 : Int32)) rfl ?_
  refine X12.goto i37_129 j129_4 ?_
  refine X12.istore i37_133 (Ls' := #[.val (.ref s), .val (.int (3 : Int32)), .val (.int a), .val (.int b), .val (.int c), .val (.int (1 : Int32)), .unset]) rfl ?_
  refine X12.iload_n i37_135 rfl ?_
  refine X12.iconst i37_136 (z := (1 : Int32)) rfl ?_
  refine X12.icN i37_137 (by decide) ?_
  refine X12.aload_n i37_140 rfl rfl ?_
  refine X12.bipush i37_141 (z := (11 : Int32)) rfl ?_
  refine own_strAt X12 hw i37_143 (hw _ wd_222) S_s (Nat.le_of_ble_eq_true rfl) hcs hcz hfm hfr (i := 11) (Nat.le_of_ble_eq_true rfl) rfl (c := a) rfl rfl (W := 0) rfl (by decide) (by decide) (by decide) (by decide) fun T13 X13 => ?_
  refine X13.iload_n i37_146 rfl ?_
  refine X13.icN i37_147 (teq rfl).2 ?_
  refine X13.iload_n i37_150 rfl ?_
  refine X13.iconst i37_151 (z := (2 : Int32)) rfl ?_
  refine X13.icN i37_152 (by decide) ?_
  refine X13.aload_n i37_155 rfl rfl ?_
  refine X13.bipush i37_156 (z := (12 : Int32)) rfl ?_
  refine own_strAt X13 hw i37_158 (hw _ wd_222) S_s (Nat.le_of_ble_eq_true rfl) hcs hcz hfm hfr (i := 12) (Nat.le_of_ble_eq_true rfl) rfl (c := b) rfl rfl (W := 0) rfl (by decide) (by decide) (by decide) (by decide) fun T14 X14 => ?_
  refine X14.iload_n i37_161 rfl ?_
  refine X14.icN i37_162 (teq rfl).2 ?_
  refine X14.iload_n i37_165 rfl ?_
  refine X14.iconst i37_166 (z := (3 : Int32)) rfl ?_
  refine X14.icN i37_167 (by decide) ?_
  refine X14.aload_n i37_170 rfl rfl ?_
  refine X14.bipush i37_171 (z := (13 : Int32)) rfl ?_
  refine own_strAt X14 hw i37_173 (hw _ wd_222) S_s (Nat.le_of_ble_eq_true rfl) hcs hcz hfm hfr (i := 13) (Nat.le_of_ble_eq_true rfl) rfl (c := c) rfl rfl (W := 0) rfl (by decide) (by decide) (by decide) (by decide) fun T15 X15 => ?_
  refine X15.iload i37_176 rfl ?_
  refine X15.icN i37_178 (teq rfl).2 ?_
  refine X15.iconst i37_181 (z := (1 : Int32)) rfl ?_
  refine X15.goto i37_182 j182_4 ?_
  refine X15.istore i37_186 (Ls' := #[.val (.ref s), .val (.int (3 : Int32)), .val (.int a), .val (.int b), .val (.int c), .val (.int (1 : Int32)), .val (.int (1 : Int32))]) rfl ?_
  refine X15.iload i37_188 rfl ?_
  refine X15.ifN i37_190 (by decide) ?_
  refine X15.iload i37_193 rfl ?_
  refine X15.ifN i37_195 (by decide) ?_
  refine X15.aload_n i37_198 rfl rfl ?_
  refine X15.bipush i37_199 (z := (11 : Int32)) rfl ?_
  refine X15.iload_n i37_201 rfl ?_
  refine X15.iadd i37_202 (z := (14 : Int32)) rfl ?_
  refine own_strAt X15 hw i37_203 (hw _ wd_222) S_s (Nat.le_of_ble_eq_true rfl) hcs hcz hfm hfr (i := 14) (Nat.le_of_ble_eq_true rfl) rfl (c := (34 : Int32)) rfl rfl (W := 0) rfl (by decide) (by decide) (by decide) (by decide) fun T16 X16 => ?_
  refine X16.bipush i37_206 (z := (34 : Int32)) rfl ?_
  refine X16.icN i37_208 (by decide) ?_
  refine X16.iconst i37_211 (z := (1 : Int32)) rfl ?_
  refine X16.goto i37_212 j212_4 ?_
  exact X16.ireturn i37_216 (t := .boolean) rfl (by decide) rfl (by decide) (by decide) (fun sf hsf => ⟨rfl, rfl⟩)
theorem ef_law (m : MethodId) (p0 : Int32) (p1 : Int32) : entryFrame m #[(.int p0), (.int p1)] maxLocals = mkF m 0 #[.val (.int p0), .val (.int p1), .unset, .unset, .unset, .unset, .unset, .unset, .unset, .unset, .unset] [] := by first | (simp [entryFrame, mkF, argsToLocals, Value.category, maxLocals]; done) | rfl
set_option maxRecDepth 65536 in
set_option maxHeartbeats 40000000 in
theorem own_law (l : Launch) {Z : State} {a0 : Array Value} (hw : ∀ d ∈ tables_1, d.before a0 Z = true) (hEL : EW Z a0 own_EL) {zc : Int32} (hcs : Sta Z Z.heap "java/lang/String" "COMPACT_STRINGS" "Z" (.int zc)) (hcz : ¬ zc = 0) {fm : Value} (hfm : Sta Z Z.heap "jdk/internal/util/Preconditions" "SIOOBE_FORMATTER" "Ljava/util/function/BiFunction;" fm) (hfr : fm.isRef = true) {mo : Addr} (hmo : OwnMir Z "java/lang/Object" mo) (p0 : Int32) (p1 : Int32)  :
    Con tables_1 false l Z own_EL Z.heap.size [] x code maxLocals ret room_1 #[(.int p0), (.int p1)] Z.heap (fun v h' sf => v = some (.int (1 : Int32))) := by
  have hml : maxLocals = 11 := rfl
  refine Con.intro pn38 hEL (Old.start Z) (fun m => ef_law m p0 p1) fun C vm T hl X hs => ?_
  have X : On C room_1 "com/example/likeness/likeness/property/ElementsEntryWriterPinLaw" code 11 (some .boolean) "law" false Z a0 own_EL Z.heap.size vm T Z.heap 0 0 := X
  obtain ⟨n3, hn0⟩ : ∃ z, (p1 &&& (3 : Int32)) = z := ⟨_, rfl⟩
  have hn4 := own_and3 p1
  rw [hn0] at hn4
  refine X.iload_n i38_0 rfl ?_
  refine X.sipush i38_1 (z := (255 : Int32)) rfl ?_
  refine X.iand i38_4 (z := (p0 &&& (255 : Int32))) rfl ?_
  refine X.i2c i38_5 (z := (p0 &&& (255 : Int32))) (i2c_mask _) ?_
  refine X.istore_n i38_6 (Ls' := #[.val (.int p0), .val (.int p1), .val (.int (p0 &&& (255 : Int32))), .unset, .unset, .unset, .unset, .unset, .unset, .unset, .unset]) rfl ?_
  refine X.iload_n i38_7 rfl ?_
  refine X.bipush i38_8 (z := (8 : Int32)) rfl ?_
  refine X.iushr i38_10 (z := ((p0.toUInt32 >>> ((8 : Int32) &&& 31).toUInt32).toInt32)) rfl ?_
  refine X.sipush i38_11 (z := (255 : Int32)) rfl ?_
  refine X.iand i38_14 (z := (((p0.toUInt32 >>> ((8 : Int32) &&& 31).toUInt32).toInt32) &&& (255 : Int32))) rfl ?_
  refine X.i2c i38_15 (z := (((p0.toUInt32 >>> ((8 : Int32) &&& 31).toUInt32).toInt32) &&& (255 : Int32))) (i2c_mask _) ?_
  refine X.istore_n i38_16 (Ls' := #[.val (.int p0), .val (.int p1), .val (.int (p0 &&& (255 : Int32))), .val (.int (((p0.toUInt32 >>> ((8 : Int32) &&& 31).toUInt32).toInt32) &&& (255 : Int32))), .unset, .unset, .unset, .unset, .unset, .unset, .unset]) rfl ?_
  refine X.iload_n i38_17 rfl ?_
  refine X.bipush i38_18 (z := (16 : Int32)) rfl ?_
  refine X.iushr i38_20 (z := ((p0.toUInt32 >>> ((16 : Int32) &&& 31).toUInt32).toInt32)) rfl ?_
  refine X.sipush i38_21 (z := (255 : Int32)) rfl ?_
  refine X.iand i38_24 (z := (((p0.toUInt32 >>> ((16 : Int32) &&& 31).toUInt32).toInt32) &&& (255 : Int32))) rfl ?_
  refine X.i2c i38_25 (z := (((p0.toUInt32 >>> ((16 : Int32) &&& 31).toUInt32).toInt32) &&& (255 : Int32))) (i2c_mask _) ?_
  refine X.istore i38_26 (Ls' := #[.val (.int p0), .val (.int p1), .val (.int (p0 &&& (255 : Int32))), .val (.int (((p0.toUInt32 >>> ((8 : Int32) &&& 31).toUInt32).toInt32) &&& (255 : Int32))), .val (.int (((p0.toUInt32 >>> ((16 : Int32) &&& 31).toUInt32).toInt32) &&& (255 : Int32))), .unset, .unset, .unset, .unset, .unset, .unset]) rfl ?_
  refine X.iload_n i38_28 rfl ?_
  rcases hn4 with rfl | rfl | rfl | rfl
  · skip
    refine X.iconst i38_29 (z := (3 : Int32)) rfl ?_
    refine X.iand i38_30 (z := (0 : Int32)) hn0 ?_
    refine X.istore i38_31 (Ls' := #[.val (.int p0), .val (.int p1), .val (.int (p0 &&& (255 : Int32))), .val (.int (((p0.toUInt32 >>> ((8 : Int32) &&& 31).toUInt32).toInt32) &&& (255 : Int32))), .val (.int (((p0.toUInt32 >>> ((16 : Int32) &&& 31).toUInt32).toInt32) &&& (255 : Int32))), .val (.int (0 : Int32)), .unset, .unset, .unset, .unset, .unset]) rfl ?_
    refine X.iload i38_33 rfl ?_
    refine X.ifN i38_35 (by decide) ?_
    refine X.new i38_38 (hw _ wd_0) (hw _ wd_1) (hw _ wd_2) (k' := 1) rfl (n' := 4) rfl (by decide) (by decide) fun T1 h1 a1 X1 E1 z1 g1 A1 D1 U1 Sf1 => ?_
    refine X1.dup i38_41 rfl ?_
    refine X1.iconst i38_42 (z := (0 : Int32)) rfl ?_
    refine X1.newarray i38_43 (ty := .char) rfl (hw _ wd_3) (by decide) (cap := 0) (by decide) (by decide) (k' := 2) rfl (n' := 4) rfl (by decide) (by decide) fun T2 h2 a2 c2 X2 E2 z2 g2 V2 Sf2 => ?_
    have V2 : Arv Z h2 a2 c2 .char (0 : Int32) [] (.int (0 : Int32)) := V2.pad (pad_rep [] (.int (0 : Int32)) 0)
    have E3 := (A1.ext E2)
    have F4 : Fld Z h1 a1 "java/lang/String" "value" "[B" .null := D1 (Or.inr (hw _ wd_29)) (ty := (.array .byte)) (by decide)
    have F5 := (F4.ext E2)
    have F6 : Fld Z h1 a1 "java/lang/String" "coder" "B" (.int (0 : Int32)) := D1 (Or.inr (hw _ wd_27)) (ty := .byte) (by decide)
    have F7 := (F6.ext E2)
    have Sf9 := ((CHr.ext E2 X1.chv)).safe (A1).lt Sf1
    refine X2.callI hl (argsL := [(.ref a2)]) (a := a1) i38_45 (c_se1 l hw hEL hcs hcz hfm hfr hmo X2.old a1 a2 c2 (.int (0 : Int32)) E3 g1 F5 F7 V2) (hw _ wd_4) (hw _ wd_5) (hw _ wd_2) (hw _ wd_6) rfl (by decide) (sf_cons ⟨Sf9, (E3).lt⟩ sf_nil) pd24 rfl rfl rfl (W := 1) rfl (by decide) (by decide) (k' := 6) rfl (n' := 12) rfl (by decide) (by decide) fun vm8 T8 h8 v8 X8 r8 Q8 => ?_
    obtain ⟨t_8, kb_8, rfl, q8_0, q8_1⟩ := Q8
    show Go _ _ _ _ _ _ _ T8 48 #[.val (.int p0), .val (.int p1), .val (.int (p0 &&& (255 : Int32))), .val (.int (((p0.toUInt32 >>> ((8 : Int32) &&& 31).toUInt32).toInt32) &&& (255 : Int32))), .val (.int (((p0.toUInt32 >>> ((16 : Int32) &&& 31).toUInt32).toInt32) &&& (255 : Int32))), .val (.int (0 : Int32)), .unset, .unset, .unset, .unset, .unset] [(.ref a1)]
    refine X8.astore i38_48 rfl (Ls' := #[.val (.int p0), .val (.int p1), .val (.int (p0 &&& (255 : Int32))), .val (.int (((p0.toUInt32 >>> ((8 : Int32) &&& 31).toUInt32).toInt32) &&& (255 : Int32))), .val (.int (((p0.toUInt32 >>> ((16 : Int32) &&& 31).toUInt32).toInt32) &&& (255 : Int32))), .val (.int (0 : Int32)), .val (.ref a1), .unset, .unset, .unset, .unset]) rfl ?_
    refine X8.goto i38_50 j50_72 ?_
    refine X8.aload i38_122 rfl rfl ?_
    refine X8.callS hl (argsL := [(.ref a1)]) i38_124 (c_ew l hw hEL hcs hcz hfm hfr hmo X8.old a1 t_8 kb_8 ([] : List Int32) q8_1 (Nat.le_of_ble_eq_true rfl)) (hw _ wd_30) (hw _ wd_31) (hw _ wd_32) (hw _ wd_33) (by decide) sf_nil pd25 rfl rfl rfl (W := 0) rfl (by decide) (by decide) (k' := 16) rfl (n' := 116) rfl (by decide) (by decide) fun vm10 T10 h10 v10 X10 r10 Q10 => ?_
    obtain ⟨p_10, x_10, lm_10, tx_10, kx_10, rfl, q10_0, q10_1, q10_2, q10_3, q10_4, q10_5, q10_6, q10_7, q10_8, q10_9, q10_10⟩ := Q10
    have g11 := Nat.le_trans X8.n0le q10_1
    show Go _ _ _ _ _ _ _ T10 127 #[.val (.int p0), .val (.int p1), .val (.int (p0 &&& (255 : Int32))), .val (.int (((p0.toUInt32 >>> ((8 : Int32) &&& 31).toUInt32).toInt32) &&& (255 : Int32))), .val (.int (((p0.toUInt32 >>> ((16 : Int32) &&& 31).toUInt32).toInt32) &&& (255 : Int32))), .val (.int (0 : Int32)), .val (.ref a1), .unset, .unset, .unset, .unset] [(.ref p_10)]
    have S12 : Str Z h10 x_10 tx_10 kx_10 [(116 : Int32), (104 : Int32), (101 : Int32), (32 : Int32), (101 : Int32), (110 : Int32), (116 : Int32), (114 : Int32), (121 : Int32), (32 : Int32), (34 : Int32), (34 : Int32)] := q10_10
    refine X10.astore i38_127 rfl (Ls' := #[.val (.int p0), .val (.int p1), .val (.int (p0 &&& (255 : Int32))), .val (.int (((p0.toUInt32 >>> ((8 : Int32) &&& 31).toUInt32).toInt32) &&& (255 : Int32))), .val (.int (((p0.toUInt32 >>> ((16 : Int32) &&& 31).toUInt32).toInt32) &&& (255 : Int32))), .val (.int (0 : Int32)), .val (.ref a1), .val (.ref p_10), .unset, .unset, .unset]) rfl ?_
    refine X10.aload i38_129 rfl rfl ?_
    refine X10.callV hl (argsL := []) (a := p_10) i38_131 (c_gname l hw hEL hcs hcz hfm hfr hmo X10.old p_10 a1 q10_3) q10_2 (hw _ wd_181) (hw _ wd_182) (hw _ wd_184) (nfSel X10.zw (hw _ wd_184)) (hw _ wd_183) (hw _ wd_36) (hw _ wd_185) (by decide) sf_nil pd22 rfl rfl rfl (W := 0) rfl (by decide) (by decide) (k' := 16) rfl (n' := 116) rfl (by decide) (by decide) fun vm13 T13 h13 v13 X13 r13 Q13 => ?_
    obtain ⟨rfl, rfl⟩ := Q13
    show Go _ _ _ _ _ _ _ T13 134 #[.val (.int p0), .val (.int p1), .val (.int (p0 &&& (255 : Int32))), .val (.int (((p0.toUInt32 >>> ((8 : Int32) &&& 31).toUInt32).toInt32) &&& (255 : Int32))), .val (.int (((p0.toUInt32 >>> ((16 : Int32) &&& 31).toUInt32).toInt32) &&& (255 : Int32))), .val (.int (0 : Int32)), .val (.ref a1), .val (.ref p_10), .unset, .unset, .unset] [(.ref a1)]
    refine X13.astore i38_134 rfl (Ls' := #[.val (.int p0), .val (.int p1), .val (.int (p0 &&& (255 : Int32))), .val (.int (((p0.toUInt32 >>> ((8 : Int32) &&& 31).toUInt32).toInt32) &&& (255 : Int32))), .val (.int (((p0.toUInt32 >>> ((16 : Int32) &&& 31).toUInt32).toInt32) &&& (255 : Int32))), .val (.int (0 : Int32)), .val (.ref a1), .val (.ref p_10), .val (.ref a1), .unset, .unset]) rfl ?_
    refine X13.aload i38_136 rfl rfl ?_
    refine X13.nullN i38_138 ?_
    refine X13.aload i38_141 rfl rfl ?_
    refine X13.aload i38_143 rfl rfl ?_
    have E15 := (q8_1.1.ext q10_0)
    refine X13.callV hl (argsL := [(.ref a1)]) (a := a1) i38_145 (c_seq l hw hEL hcs hcz hfm hfr hmo X13.old a1 ) E15 (hw _ wd_186) (hw _ wd_187) (hw _ wd_189) (nfSel X13.zw (hw _ wd_189)) (hw _ wd_188) (hw _ wd_2) (hw _ wd_190) (by decide) sf_nil pd26 rfl rfl rfl (W := 0) rfl (by decide) (by decide) (k' := 16) rfl (n' := 116) rfl (by decide) (by decide) fun vm14 T14 h14 v14 X14 r14 Q14 => ?_
    obtain ⟨rfl, rfl⟩ := Q14
    show Go _ _ _ _ _ _ _ T14 148 #[.val (.int p0), .val (.int p1), .val (.int (p0 &&& (255 : Int32))), .val (.int (((p0.toUInt32 >>> ((8 : Int32) &&& 31).toUInt32).toInt32) &&& (255 : Int32))), .val (.int (((p0.toUInt32 >>> ((16 : Int32) &&& 31).toUInt32).toInt32) &&& (255 : Int32))), .val (.int (0 : Int32)), .val (.ref a1), .val (.ref p_10), .val (.ref a1), .unset, .unset] [(.int (1 : Int32))]
    refine X14.ifN i38_148 (by decide) ?_
    refine X14.aload i38_151 rfl rfl ?_
    refine X14.callV hl (argsL := []) (a := p_10) i38_153 (c_gtype l hw hEL hcs hcz hfm hfr hmo X14.old p_10 q10_4) q10_2 (hw _ wd_191) (hw _ wd_192) (hw _ wd_194) (nfSel X14.zw (hw _ wd_194)) (hw _ wd_193) (hw _ wd_36) (hw _ wd_195) (by decide) sf_nil pd27 rfl rfl rfl (W := 0) rfl (by decide) (by decide) (k' := 16) rfl (n' := 116) rfl (by decide) (by decide) fun vm16 T16 h16 v16 X16 r16 Q16 => ?_
    obtain ⟨rfl, rfl⟩ := Q16
    show Go _ _ _ _ _ _ _ T16 156 #[.val (.int p0), .val (.int p1), .val (.int (p0 &&& (255 : Int32))), .val (.int (((p0.toUInt32 >>> ((8 : Int32) &&& 31).toUInt32).toInt32) &&& (255 : Int32))), .val (.int (((p0.toUInt32 >>> ((16 : Int32) &&& 31).toUInt32).toInt32) &&& (255 : Int32))), .val (.int (0 : Int32)), .val (.ref a1), .val (.ref p_10), .val (.ref a1), .unset, .unset] [(.ref mo)]
    refine X16.ldcM i38_156 (hw _ wd_196) hmo fun T17 X17 => ?_
    refine X17.acN i38_158 rfl rfl (XT.aa_ne_f rfl) ?_
    refine X17.aload i38_161 rfl rfl ?_
    refine X17.callV hl (argsL := []) (a := p_10) i38_163 (c_gfillsHeld l hw hEL hcs hcz hfm hfr hmo X17.old p_10 q10_7) q10_2 (hw _ wd_197) (hw _ wd_198) (hw _ wd_200) (nfSel X17.zw (hw _ wd_200)) (hw _ wd_199) (hw _ wd_36) (hw _ wd_201) (by decide) sf_nil pd11 rfl rfl rfl (W := 0) rfl (by decide) (by decide) (k' := 16) rfl (n' := 116) rfl (by decide) (by decide) fun vm18 T18 h18 v18 X18 r18 Q18 => ?_
    obtain ⟨rfl, rfl⟩ := Q18
    show Go _ _ _ _ _ _ _ T18 166 #[.val (.int p0), .val (.int p1), .val (.int (p0 &&& (255 : Int32))), .val (.int (((p0.toUInt32 >>> ((8 : Int32) &&& 31).toUInt32).toInt32) &&& (255 : Int32))), .val (.int (((p0.toUInt32 >>> ((16 : Int32) &&& 31).toUInt32).toInt32) &&& (255 : Int32))), .val (.int (0 : Int32)), .val (.ref a1), .val (.ref p_10), .val (.ref a1), .unset, .unset] [(.int (0 : Int32))]
    refine X18.ifN i38_166 (by decide) ?_
    refine X18.aload i38_169 rfl rfl ?_
    refine X18.callV hl (argsL := []) (a := p_10) i38_171 (c_gmember l hw hEL hcs hcz hfm hfr hmo X18.old p_10 q10_8) q10_2 (hw _ wd_202) (hw _ wd_203) (hw _ wd_205) (nfSel X18.zw (hw _ wd_205)) (hw _ wd_204) (hw _ wd_36) (hw _ wd_206) (by decide) sf_nil pd28 rfl rfl rfl (W := 0) rfl (by decide) (by decide) (k' := 16) rfl (n' := 116) rfl (by decide) (by decide) fun vm19 T19 h19 v19 X19 r19 Q19 => ?_
    obtain ⟨rfl, rfl⟩ := Q19
    show Go _ _ _ _ _ _ _ T19 174 #[.val (.int p0), .val (.int p1), .val (.int (p0 &&& (255 : Int32))), .val (.int (((p0.toUInt32 >>> ((8 : Int32) &&& 31).toUInt32).toInt32) &&& (255 : Int32))), .val (.int (((p0.toUInt32 >>> ((16 : Int32) &&& 31).toUInt32).toInt32) &&& (255 : Int32))), .val (.int (0 : Int32)), .val (.ref a1), .val (.ref p_10), .val (.ref a1), .unset, .unset] [.null]
    refine X19.nonnullN i38_174 ?_
    refine X19.aload i38_177 rfl rfl ?_
    refine X19.callV hl (argsL := []) (a := p_10) i38_179 (c_ghandle l hw hEL hcs hcz hfm hfr hmo X19.old p_10 q10_9) q10_2 (hw _ wd_207) (hw _ wd_208) (hw _ wd_210) (nfSel X19.zw (hw _ wd_210)) (hw _ wd_209) (hw _ wd_36) (hw _ wd_211) (by decide) sf_nil pd28 rfl rfl rfl (W := 0) rfl (by decide) (by decide) (k' := 16) rfl (n' := 116) rfl (by decide) (by decide) fun vm20 T20 h20 v20 X20 r20 Q20 => ?_
    obtain ⟨rfl, rfl⟩ := Q20
    show Go _ _ _ _ _ _ _ T20 182 #[.val (.int p0), .val (.int p1), .val (.int (p0 &&& (255 : Int32))), .val (.int (((p0.toUInt32 >>> ((8 : Int32) &&& 31).toUInt32).toInt32) &&& (255 : Int32))), .val (.int (((p0.toUInt32 >>> ((16 : Int32) &&& 31).toUInt32).toInt32) &&& (255 : Int32))), .val (.int (0 : Int32)), .val (.ref a1), .val (.ref p_10), .val (.ref a1), .unset, .unset] [.null]
    refine X20.nonnullN i38_182 ?_
    refine X20.iconst i38_185 (z := (1 : Int32)) rfl ?_
    refine X20.goto i38_186 j186_4 ?_
    refine X20.istore i38_190 (Ls' := #[.val (.int p0), .val (.int p1), .val (.int (p0 &&& (255 : Int32))), .val (.int (((p0.toUInt32 >>> ((8 : Int32) &&& 31).toUInt32).toInt32) &&& (255 : Int32))), .val (.int (((p0.toUInt32 >>> ((16 : Int32) &&& 31).toUInt32).toInt32) &&& (255 : Int32))), .val (.int (0 : Int32)), .val (.ref a1), .val (.ref p_10), .val (.ref a1), .val (.int (1 : Int32)), .unset]) rfl ?_
    refine X20.aload i38_192 rfl rfl ?_
    refine X20.callV hl (argsL := []) (a := p_10) i38_194 (c_gtoString l hw hEL hcs hcz hfm hfr hmo X20.old p_10 x_10 q10_5) q10_2 (hw _ wd_212) (hw _ wd_213) (hw _ wd_215) (nfSel X20.zw (hw _ wd_215)) (hw _ wd_214) (hw _ wd_36) (hw _ wd_216) (by decide) sf_nil pd22 rfl rfl rfl (W := 0) rfl (by decide) (by decide) (k' := 16) rfl (n' := 116) rfl (by decide) (by decide) fun vm21 T21 h21 v21 X21 r21 Q21 => ?_
    obtain ⟨rfl, rfl⟩ := Q21
    show Go _ _ _ _ _ _ _ T21 197 #[.val (.int p0), .val (.int p1), .val (.int (p0 &&& (255 : Int32))), .val (.int (((p0.toUInt32 >>> ((8 : Int32) &&& 31).toUInt32).toInt32) &&& (255 : Int32))), .val (.int (((p0.toUInt32 >>> ((16 : Int32) &&& 31).toUInt32).toInt32) &&& (255 : Int32))), .val (.int (0 : Int32)), .val (.ref a1), .val (.ref p_10), .val (.ref a1), .val (.int (1 : Int32)), .unset] [(.ref x_10)]
    refine X21.astore i38_197 rfl (Ls' := #[.val (.int p0), .val (.int p1), .val (.int (p0 &&& (255 : Int32))), .val (.int (((p0.toUInt32 >>> ((8 : Int32) &&& 31).toUInt32).toInt32) &&& (255 : Int32))), .val (.int (((p0.toUInt32 >>> ((16 : Int32) &&& 31).toUInt32).toInt32) &&& (255 : Int32))), .val (.int (0 : Int32)), .val (.ref a1), .val (.ref p_10), .val (.ref a1), .val (.int (1 : Int32)), .val (.ref x_10)]) rfl ?_
    refine X21.iload i38_199 rfl ?_
    refine X21.ifN i38_201 (by decide) ?_
    refine X21.aload i38_204 rfl rfl ?_
    refine X21.nullN i38_206 ?_
    refine X21.aload i38_209 rfl rfl ?_
    refine X21.iload i38_211 rfl ?_
    refine X21.iload_n i38_213 rfl ?_
    refine X21.iload_n i38_214 rfl ?_
    refine X21.iload i38_215 rfl ?_
    refine X21.callS hl (argsL := [(.ref x_10), (.int (0 : Int32)), (.int (p0 &&& (255 : Int32))), (.int (((p0.toUInt32 >>> ((8 : Int32) &&& 31).toUInt32).toInt32) &&& (255 : Int32))), (.int (((p0.toUInt32 >>> ((16 : Int32) &&& 31).toUInt32).toInt32) &&& (255 : Int32)))]) i38_217 (c_des0 l hw hEL hcs hcz hfm hfr hmo X21.old x_10 tx_10 kx_10 (p0 &&& (255 : Int32)) (((p0.toUInt32 >>> ((8 : Int32) &&& 31).toUInt32).toInt32) &&& (255 : Int32)) (((p0.toUInt32 >>> ((16 : Int32) &&& 31).toUInt32).toInt32) &&& (255 : Int32)) S12) (hw _ wd_217) (hw _ wd_218) (hw _ wd_219) (hw _ wd_220) (by decide) sf_nil pd29 rfl rfl rfl (W := 0) rfl (by decide) (by decide) (k' := 16) rfl (n' := 116) rfl (by decide) (by decide) fun vm22 T22 h22 v22 X22 r22 Q22 => ?_
    obtain ⟨rfl, rfl⟩ := Q22
    show Go _ _ _ _ _ _ _ T22 220 #[.val (.int p0), .val (.int p1), .val (.int (p0 &&& (255 : Int32))), .val (.int (((p0.toUInt32 >>> ((8 : Int32) &&& 31).toUInt32).toInt32) &&& (255 : Int32))), .val (.int (((p0.toUInt32 >>> ((16 : Int32) &&& 31).toUInt32).toInt32) &&& (255 : Int32))), .val (.int (0 : Int32)), .val (.ref a1), .val (.ref p_10), .val (.ref a1), .val (.int (1 : Int32)), .val (.ref x_10)] [(.int (1 : Int32))]
    refine X22.ifN i38_220 (by decide) ?_
    refine X22.iconst i38_223 (z := (1 : Int32)) rfl ?_
    refine X22.goto i38_224 j224_4 ?_
    exact X22.ireturn i38_228 (t := .boolean) rfl (by decide) rfl (by decide) (by decide) (fun sf hsf => rfl)
  · skip
    refine X.iconst i38_29 (z := (3 : Int32)) rfl ?_
    refine X.iand i38_30 (z := (1 : Int32)) hn0 ?_
    refine X.istore i38_31 (Ls' := #[.val (.int p0), .val (.int p1), .val (.int (p0 &&& (255 : Int32))), .val (.int (((p0.toUInt32 >>> ((8 : Int32) &&& 31).toUInt32).toInt32) &&& (255 : Int32))), .val (.int (((p0.toUInt32 >>> ((16 : Int32) &&& 31).toUInt32).toInt32) &&& (255 : Int32))), .val (.int (1 : Int32)), .unset, .unset, .unset, .unset, .unset]) rfl ?_
    refine X.iload i38_33 rfl ?_
    refine X.ifY i38_35 j35_18 (by decide) ?_
    refine X.iload i38_53 rfl ?_
    refine X.iconst i38_55 (z := (1 : Int32)) rfl ?_
    refine X.icN i38_56 (by decide) ?_
    refine X.iload_n i38_59 rfl ?_
    refine X.callS hl (argsL := [(.int (p0 &&& (255 : Int32)))]) i38_60 (c_vof l hw hEL hcs hcz hfm hfr hmo X.old (p0 &&& (255 : Int32)) (own_and255 _)) (hw _ wd_244) (hw _ wd_245) (hw _ wd_2) (hw _ wd_246) (by decide) sf_nil pd30 rfl rfl rfl (W := 0) rfl (by decide) (by decide) (k' := 2) rfl (n' := 5) rfl (by decide) (by decide) fun vm23 T23 h23 v23 X23 r23 Q23 => ?_
    obtain ⟨x_23, t_23, kt_23, rfl, q23_0, q23_1, q23_2⟩ := Q23
    have g24 := Nat.le_trans X.n0le q23_1
    show Go _ _ _ _ _ _ _ T23 63 #[.val (.int p0), .val (.int p1), .val (.int (p0 &&& (255 : Int32))), .val (.int (((p0.toUInt32 >>> ((8 : Int32) &&& 31).toUInt32).toInt32) &&& (255 : Int32))), .val (.int (((p0.toUInt32 >>> ((16 : Int32) &&& 31).toUInt32).toInt32) &&& (255 : Int32))), .val (.int (1 : Int32)), .unset, .unset, .unset, .unset, .unset] [(.ref x_23)]
    refine X23.astore i38_63 rfl (Ls' := #[.val (.int p0), .val (.int p1), .val (.int (p0 &&& (255 : Int32))), .val (.int (((p0.toUInt32 >>> ((8 : Int32) &&& 31).toUInt32).toInt32) &&& (255 : Int32))), .val (.int (((p0.toUInt32 >>> ((16 : Int32) &&& 31).toUInt32).toInt32) &&& (255 : Int32))), .val (.int (1 : Int32)), .val (.ref x_23), .unset, .unset, .unset, .unset]) rfl ?_
    refine X23.goto i38_65 j65_57 ?_
    refine X23.aload i38_122 rfl rfl ?_
    refine X23.callS hl (argsL := [(.ref x_23)]) i38_124 (c_ew l hw hEL hcs hcz hfm hfr hmo X23.old x_23 t_23 kt_23 [(p0 &&& (255 : Int32))] q23_2 (Nat.le_of_ble_eq_true rfl)) (hw _ wd_30) (hw _ wd_31) (hw _ wd_32) (hw _ wd_33) (by decide) sf_nil pd25 rfl rfl rfl (W := 0) rfl (by decide) (by decide) (k' := 12) rfl (n' := 109) rfl (by decide) (by decide) fun vm25 T25 h25 v25 X25 r25 Q25 => ?_
    obtain ⟨p_25, x_25, lm_25, tx_25, kx_25, rfl, q25_0, q25_1, q25_2, q25_3, q25_4, q25_5, q25_6, q25_7, q25_8, q25_9, q25_10⟩ := Q25
    have g26 := Nat.le_trans X23.n0le q25_1
    show Go _ _ _ _ _ _ _ T25 127 #[.val (.int p0), .val (.int p1), .val (.int (p0 &&& (255 : Int32))), .val (.int (((p0.toUInt32 >>> ((8 : Int32) &&& 31).toUInt32).toInt32) &&& (255 : Int32))), .val (.int (((p0.toUInt32 >>> ((16 : Int32) &&& 31).toUInt32).toInt32) &&& (255 : Int32))), .val (.int (1 : Int32)), .val (.ref x_23), .unset, .unset, .unset, .unset] [(.ref p_25)]
    have S27 : Str Z h25 x_25 tx_25 kx_25 [(116 : Int32), (104 : Int32), (101 : Int32), (32 : Int32), (101 : Int32), (110 : Int32), (116 : Int32), (114 : Int32), (121 : Int32), (32 : Int32), (34 : Int32), (p0 &&& (255 : Int32)), (34 : Int32)] := q25_10
    refine X25.astore i38_127 rfl (Ls' := #[.val (.int p0), .val (.int p1), .val (.int (p0 &&& (255 : Int32))), .val (.int (((p0.toUInt32 >>> ((8 : Int32) &&& 31).toUInt32).toInt32) &&& (255 : Int32))), .val (.int (((p0.toUInt32 >>> ((16 : Int32) &&& 31).toUInt32).toInt32) &&& (255 : Int32))), .val (.int (1 : Int32)), .val (.ref x_23), .val (.ref p_25), .unset, .unset, .unset]) rfl ?_
    refine X25.aload i38_129 rfl rfl ?_
    refine X25.callV hl (argsL := []) (a := p_25) i38_131 (c_gname l hw hEL hcs hcz hfm hfr hmo X25.old p_25 x_23 q25_3) q25_2 (hw _ wd_181) (hw _ wd_182) (hw _ wd_184) (nfSel X25.zw (hw _ wd_184)) (hw _ wd_183) (hw _ wd_36) (hw _ wd_185) (by decide) sf_nil pd22 rfl rfl rfl (W := 0) rfl (by decide) (by decide) (k' := 12) rfl (n' := 109) rfl (by decide) (by decide) fun vm28 T28 h28 v28 X28 r28 Q28 => ?_
    obtain ⟨rfl, rfl⟩ := Q28
    show Go _ _ _ _ _ _ _ T28 134 #[.val (.int p0), .val (.int p1), .val (.int (p0 &&& (255 : Int32))), .val (.int (((p0.toUInt32 >>> ((8 : Int32) &&& 31).toUInt32).toInt32) &&& (255 : Int32))), .val (.int (((p0.toUInt32 >>> ((16 : Int32) &&& 31).toUInt32).toInt32) &&& (255 : Int32))), .val (.int (1 : Int32)), .val (.ref x_23), .val (.ref p_25), .unset, .unset, .unset] [(.ref x_23)]
    refine X28.astore i38_134 rfl (Ls' := #[.val (.int p0), .val (.int p1), .val (.int (p0 &&& (255 : Int32))), .val (.int (((p0.toUInt32 >>> ((8 : Int32) &&& 31).toUInt32).toInt32) &&& (255 : Int32))), .val (.int (((p0.toUInt32 >>> ((16 : Int32) &&& 31).toUInt32).toInt32) &&& (255 : Int32))), .val (.int (1 : Int32)), .val (.ref x_23), .val (.ref p_25), .val (.ref x_23), .unset, .unset]) rfl ?_
    refine X28.aload i38_136 rfl rfl ?_
    refine X28.nullN i38_138 ?_
    refine X28.aload i38_141 rfl rfl ?_
    refine X28.aload i38_143 rfl rfl ?_
    have E30 := (q23_2.1.ext q25_0)
    refine X28.callV hl (argsL := [(.ref x_23)]) (a := x_23) i38_145 (c_seq l hw hEL hcs hcz hfm hfr hmo X28.old x_23 ) E30 (hw _ wd_186) (hw _ wd_187) (hw _ wd_189) (nfSel X28.zw (hw _ wd_189)) (hw _ wd_188) (hw _ wd_2) (hw _ wd_190) (by decide) sf_nil pd26 rfl rfl rfl (W := 0) rfl (by decide) (by decide) (k' := 12) rfl (n' := 109) rfl (by decide) (by decide) fun vm29 T29 h29 v29 X29 r29 Q29 => ?_
    obtain ⟨rfl, rfl⟩ := Q29
    show Go _ _ _ _ _ _ _ T29 148 #[.val (.int p0), .val (.int p1), .val (.int (p0 &&& (255 : Int32))), .val (.int (((p0.toUInt32 >>> ((8 : Int32) &&& 31).toUInt32).toInt32) &&& (255 : Int32))), .val (.int (((p0.toUInt32 >>> ((16 : Int32) &&& 31).toUInt32).toInt32) &&& (255 : Int32))), .val (.int (1 : Int32)), .val (.ref x_23), .val (.ref p_25), .val (.ref x_23), .unset, .unset] [(.int (1 : Int32))]
    refine X29.ifN i38_148 (by decide) ?_
    refine X29.aload i38_151 rfl rfl ?_
    refine X29.callV hl (argsL := []) (a := p_25) i38_153 (c_gtype l hw hEL hcs hcz hfm hfr hmo X29.old p_25 q25_4) q25_2 (hw _ wd_191) (hw _ wd_192) (hw _ wd_194) (nfSel X29.zw (hw _ wd_194)) (hw _ wd_193) (hw _ wd_36) (hw _ wd_195) (by decide) sf_nil pd27 rfl rfl rfl (W := 0) rfl (by decide) (by decide) (k' := 12) rfl (n' := 109) rfl (by decide) (by decide) fun vm31 T31 h31 v31 X31 r31 Q31 => ?_
    obtain ⟨rfl, rfl⟩ := Q31
    show Go _ _ _ _ _ _ _ T31 156 #[.val (.int p0), .val (.int p1), .val (.int (p0 &&& (255 : Int32))), .val (.int (((p0.toUInt32 >>> ((8 : Int32) &&& 31).toUInt32).toInt32) &&& (255 : Int32))), .val (.int (((p0.toUInt32 >>> ((16 : Int32) &&& 31).toUInt32).toInt32) &&& (255 : Int32))), .val (.int (1 : Int32)), .val (.ref x_23), .val (.ref p_25), .val (.ref x_23), .unset, .unset] [(.ref mo)]
    refine X31.ldcM i38_156 (hw _ wd_196) hmo fun T32 X32 => ?_
    refine X32.acN i38_158 rfl rfl (XT.aa_ne_f rfl) ?_
    refine X32.aload i38_161 rfl rfl ?_
    refine X32.callV hl (argsL := []) (a := p_25) i38_163 (c_gfillsHeld l hw hEL hcs hcz hfm hfr hmo X32.old p_25 q25_7) q25_2 (hw _ wd_197) (hw _ wd_198) (hw _ wd_200) (nfSel X32.zw (hw _ wd_200)) (hw _ wd_199) (hw _ wd_36) (hw _ wd_201) (by decide) sf_nil pd11 rfl rfl rfl (W := 0) rfl (by decide) (by decide) (k' := 12) rfl (n' := 109) rfl (by decide) (by decide) fun vm33 T33 h33 v33 X33 r33 Q33 => ?_
    obtain ⟨rfl, rfl⟩ := Q33
    show Go _ _ _ _ _ _ _ T33 166 #[.val (.int p0), .val (.int p1), .val (.int (p0 &&& (255 : Int32))), .val (.int (((p0.toUInt32 >>> ((8 : Int32) &&& 31).toUInt32).toInt32) &&& (255 : Int32))), .val (.int (((p0.toUInt32 >>> ((16 : Int32) &&& 31).toUInt32).toInt32) &&& (255 : Int32))), .val (.int (1 : Int32)), .val (.ref x_23), .val (.ref p_25), .val (.ref x_23), .unset, .unset] [(.int (0 : Int32))]
    refine X33.ifN i38_166 (by decide) ?_
    refine X33.aload i38_169 rfl rfl ?_
    refine X33.callV hl (argsL := []) (a := p_25) i38_171 (c_gmember l hw hEL hcs hcz hfm hfr hmo X33.old p_25 q25_8) q25_2 (hw _ wd_202) (hw _ wd_203) (hw _ wd_205) (nfSel X33.zw (hw _ wd_205)) (hw _ wd_204) (hw _ wd_36) (hw _ wd_206) (by decide) sf_nil pd28 rfl rfl rfl (W := 0) rfl (by decide) (by decide) (k' := 12) rfl (n' := 109) rfl (by decide) (by decide) fun vm34 T34 h34 v34 X34 r34 Q34 => ?_
    obtain ⟨rfl, rfl⟩ := Q34
    show Go _ _ _ _ _ _ _ T34 174 #[.val (.int p0), .val (.int p1), .val (.int (p0 &&& (255 : Int32))), .val (.int (((p0.toUInt32 >>> ((8 : Int32) &&& 31).toUInt32).toInt32) &&& (255 : Int32))), .val (.int (((p0.toUInt32 >>> ((16 : Int32) &&& 31).toUInt32).toInt32) &&& (255 : Int32))), .val (.int (1 : Int32)), .val (.ref x_23), .val (.ref p_25), .val (.ref x_23), .unset, .unset] [.null]
    refine X34.nonnullN i38_174 ?_
    refine X34.aload i38_177 rfl rfl ?_
    refine X34.callV hl (argsL := []) (a := p_25) i38_179 (c_ghandle l hw hEL hcs hcz hfm hfr hmo X34.old p_25 q25_9) q25_2 (hw _ wd_207) (hw _ wd_208) (hw _ wd_210) (nfSel X34.zw (hw _ wd_210)) (hw _ wd_209) (hw _ wd_36) (hw _ wd_211) (by decide) sf_nil pd28 rfl rfl rfl (W := 0) rfl (by decide) (by decide) (k' := 12) rfl (n' := 109) rfl (by decide) (by decide) fun vm35 T35 h35 v35 X35 r35 Q35 => ?_
    obtain ⟨rfl, rfl⟩ := Q35
    show Go _ _ _ _ _ _ _ T35 182 #[.val (.int p0), .val (.int p1), .val (.int (p0 &&& (255 : Int32))), .val (.int (((p0.toUInt32 >>> ((8 : Int32) &&& 31).toUInt32).toInt32) &&& (255 : Int32))), .val (.int (((p0.toUInt32 >>> ((16 : Int32) &&& 31).toUInt32).toInt32) &&& (255 : Int32))), .val (.int (1 : Int32)), .val (.ref x_23), .val (.ref p_25), .val (.ref x_23), .unset, .unset] [.null]
    refine X35.nonnullN i38_182 ?_
    refine X35.iconst i38_185 (z := (1 : Int32)) rfl ?_
    refine X35.goto i38_186 j186_4 ?_
    refine X35.istore i38_190 (Ls' := #[.val (.int p0), .val (.int p1), .val (.int (p0 &&& (255 : Int32))), .val (.int (((p0.toUInt32 >>> ((8 : Int32) &&& 31).toUInt32).toInt32) &&& (255 : Int32))), .val (.int (((p0.toUInt32 >>> ((16 : Int32) &&& 31).toUInt32).toInt32) &&& (255 : Int32))), .val (.int (1 : Int32)), .val (.ref x_23), .val (.ref p_25), .val (.ref x_23), .val (.int (1 : Int32)), .unset]) rfl ?_
    refine X35.aload i38_192 rfl rfl ?_
    refine X35.callV hl (argsL := []) (a := p_25) i38_194 (c_gtoString l hw hEL hcs hcz hfm hfr hmo X35.old p_25 x_25 q25_5) q25_2 (hw _ wd_212) (hw _ wd_213) (hw _ wd_215) (nfSel X35.zw (hw _ wd_215)) (hw _ wd_214) (hw _ wd_36) (hw _ wd_216) (by decide) sf_nil pd22 rfl rfl rfl (W := 0) rfl (by decide) (by decide) (k' := 12) rfl (n' := 109) rfl (by decide) (by decide) fun vm36 T36 h36 v36 X36 r36 Q36 => ?_
    obtain ⟨rfl, rfl⟩ := Q36
    show Go _ _ _ _ _ _ _ T36 197 #[.val (.int p0), .val (.int p1), .val (.int (p0 &&& (255 : Int32))), .val (.int (((p0.toUInt32 >>> ((8 : Int32) &&& 31).toUInt32).toInt32) &&& (255 : Int32))), .val (.int (((p0.toUInt32 >>> ((16 : Int32) &&& 31).toUInt32).toInt32) &&& (255 : Int32))), .val (.int (1 : Int32)), .val (.ref x_23), .val (.ref p_25), .val (.ref x_23), .val (.int (1 : Int32)), .unset] [(.ref x_25)]
    refine X36.astore i38_197 rfl (Ls' := #[.val (.int p0), .val (.int p1), .val (.int (p0 &&& (255 : Int32))), .val (.int (((p0.toUInt32 >>> ((8 : Int32) &&& 31).toUInt32).toInt32) &&& (255 : Int32))), .val (.int (((p0.toUInt32 >>> ((16 : Int32) &&& 31).toUInt32).toInt32) &&& (255 : Int32))), .val (.int (1 : Int32)), .val (.ref x_23), .val (.ref p_25), .val (.ref x_23), .val (.int (1 : Int32)), .val (.ref x_25)]) rfl ?_
    refine X36.iload i38_199 rfl ?_
    refine X36.ifN i38_201 (by decide) ?_
    refine X36.aload i38_204 rfl rfl ?_
    refine X36.nullN i38_206 ?_
    refine X36.aload i38_209 rfl rfl ?_
    refine X36.iload i38_211 rfl ?_
    refine X36.iload_n i38_213 rfl ?_
    refine X36.iload_n i38_214 rfl ?_
    refine X36.iload i38_215 rfl ?_
    refine X36.callS hl (argsL := [(.ref x_25), (.int (1 : Int32)), (.int (p0 &&& (255 : Int32))), (.int (((p0.toUInt32 >>> ((8 : Int32) &&& 31).toUInt32).toInt32) &&& (255 : Int32))), (.int (((p0.toUInt32 >>> ((16 : Int32) &&& 31).toUInt32).toInt32) &&& (255 : Int32)))]) i38_217 (c_des1 l hw hEL hcs hcz hfm hfr hmo X36.old x_25 tx_25 kx_25 (p0 &&& (255 : Int32)) (((p0.toUInt32 >>> ((8 : Int32) &&& 31).toUInt32).toInt32) &&& (255 : Int32)) (((p0.toUInt32 >>> ((16 : Int32) &&& 31).toUInt32).toInt32) &&& (255 : Int32)) S27) (hw _ wd_217) (hw _ wd_218) (hw _ wd_219) (hw _ wd_220) (by decide) sf_nil pd29 rfl rfl rfl (W := 0) rfl (by decide) (by decide) (k' := 12) rfl (n' := 109) rfl (by decide) (by decide) fun vm37 T37 h37 v37 X37 r37 Q37 => ?_
    obtain ⟨rfl, rfl⟩ := Q37
    show Go _ _ _ _ _ _ _ T37 220 #[.val (.int p0), .val (.int p1), .val (.int (p0 &&& (255 : Int32))), .val (.int (((p0.toUInt32 >>> ((8 : Int32) &&& 31).toUInt32).toInt32) &&& (255 : Int32))), .val (.int (((p0.toUInt32 >>> ((16 : Int32) &&& 31).toUInt32).toInt32) &&& (255 : Int32))), .val (.int (1 : Int32)), .val (.ref x_23), .val (.ref p_25), .val (.ref x_23), .val (.int (1 : Int32)), .val (.ref x_25)] [(.int (1 : Int32))]
    refine X37.ifN i38_220 (by decide) ?_
    refine X37.iconst i38_223 (z := (1 : Int32)) rfl ?_
    refine X37.goto i38_224 j224_4 ?_
    exact X37.ireturn i38_228 (t := .boolean) rfl (by decide) rfl (by decide) (by decide) (fun sf hsf => rfl)
  · skip
    refine X.iconst i38_29 (z := (3 : Int32)) rfl ?_
    refine X.iand i38_30 (z := (2 : Int32)) hn0 ?_
    refine X.istore i38_31 (Ls' := #[.val (.int p0), .val (.int p1), .val (.int (p0 &&& (255 : Int32))), .val (.int (((p0.toUInt32 >>> ((8 : Int32) &&& 31).toUInt32).toInt32) &&& (255 : Int32))), .val (.int (((p0.toUInt32 >>> ((16 : Int32) &&& 31).toUInt32).toInt32) &&& (255 : Int32))), .val (.int (2 : Int32)), .unset, .unset, .unset, .unset, .unset]) rfl ?_
    refine X.iload i38_33 rfl ?_
    refine X.ifY i38_35 j35_18 (by decide) ?_
    refine X.iload i38_53 rfl ?_
    refine X.iconst i38_55 (z := (1 : Int32)) rfl ?_
    refine X.icY i38_56 j56_12 (by decide) ?_
    refine X.iload i38_68 rfl ?_
    refine X.iconst i38_70 (z := (2 : Int32)) rfl ?_
    refine X.icN i38_71 (by decide) ?_
    refine X.new i38_74 (hw _ wd_0) (hw _ wd_1) (hw _ wd_2) (k' := 1) rfl (n' := 4) rfl (by decide) (by decide) fun T38 h38 a38 X38 E38 z38 g38 A38 D38 U38 Sf38 => ?_
    refine X38.dup i38_77 rfl ?_
    refine X38.iconst i38_78 (z := (2 : Int32)) rfl ?_
    refine X38.newarray i38_79 (ty := .char) rfl (hw _ wd_3) (by decide) (cap := 2) (by decide) (by decide) (k' := 2) rfl (n' := 6) rfl (by decide) (by decide) fun T39 h39 a39 c39 X39 E39 z39 g39 V39 Sf39 => ?_
    have V39 : Arv Z h39 a39 c39 .char (2 : Int32) [(.int (0 : Int32)), (.int (0 : Int32))] (.int (0 : Int32)) := V39.pad (pad_rep [] (.int (0 : Int32)) 2)
    refine X39.dup i38_81 rfl ?_
    refine X39.iconst i38_82 (z := (0 : Int32)) rfl ?_
    refine X39.iload_n i38_83 rfl ?_
    refine X39.castore i38_84 V39 ⟨by decide, by decide⟩ (i := 0) rfl (Nat.le_of_ble_eq_true rfl) (y := (p0 &&& (255 : Int32))) (i2c_mask _) g39 fun T40 h40 X40 W40 V40 => ?_
    have V40 : Arv Z h40 a39 c39 .char (2 : Int32) [(.int (p0 &&& (255 : Int32))), (.int (0 : Int32))] (.int (0 : Int32)) := V40
    refine X40.dup i38_85 rfl ?_
    refine X40.iconst i38_86 (z := (1 : Int32)) rfl ?_
    refine X40.iload_n i38_87 rfl ?_
    refine X40.castore i38_88 V40 ⟨by decide, by decide⟩ (i := 1) rfl (Nat.le_of_ble_eq_true rfl) (y := (((p0.toUInt32 >>> ((8 : Int32) &&& 31).toUInt32).toInt32) &&& (255 : Int32))) (i2c_mask _) g39 fun T41 h41 X41 W41 V41 => ?_
    have V41 : Arv Z h41 a39 c39 .char (2 : Int32) [(.int (p0 &&& (255 : Int32))), (.int (((p0.toUInt32 >>> ((8 : Int32) &&& 31).toUInt32).toInt32) &&& (255 : Int32)))] (.int (0 : Int32)) := V41
    have E43 := (((A38.ext E39).wr W40).wr W41)
    have F44 : Fld Z h38 a38 "java/lang/String" "value" "[B" .null := D38 (Or.inr (hw _ wd_29)) (ty := (.array .byte)) (by decide)
    have F45 := (((F44.ext E39).other W40 (Or.inl (Nat.ne_of_lt (Nat.lt_of_lt_of_le (A38).lt (Nat.le_of_eq z39))))).other W41 (Or.inl (Nat.ne_of_lt (Nat.lt_of_lt_of_le (A38).lt (Nat.le_of_eq z39)))))
    have F46 : Fld Z h38 a38 "java/lang/String" "coder" "B" (.int (0 : Int32)) := D38 (Or.inr (hw _ wd_27)) (ty := .byte) (by decide)
    have F47 := (((F46.ext E39).other W40 (Or.inl (Nat.ne_of_lt (Nat.lt_of_lt_of_le (A38).lt (Nat.le_of_eq z39))))).other W41 (Or.inl (Nat.ne_of_lt (Nat.lt_of_lt_of_le (A38).lt (Nat.le_of_eq z39)))))
    have Sf48 := ((((CHr.ext E39 X38.chv)).trans (CHr.wr W40 (Safe.arv X39.zw.alike V39 (by simp)) X39.chv)).trans (CHr.wr W41 (Safe.arv X40.zw.alike V40 (by simp)) X40.chv)).safe (A38).lt Sf38
    have hp42 : ∀ c9 ∈ ([(p0 &&& (255 : Int32)), (((p0.toUInt32 >>> ((8 : Int32) &&& 31).toUInt32).toInt32) &&& (255 : Int32))] : List Int32), ¬ c9 < 0 ∧ ¬ (255 : Int32) < c9 := (own_allS (own_and255 _) (own_allS (own_and255 _) own_all0))
    refine own_strInit X41 hw (cs := [(p0 &&& (255 : Int32)), (((p0.toUInt32 >>> ((8 : Int32) &&& 31).toUInt32).toInt32) &&& (255 : Int32))]) (c0 := a39) i38_89 (hw _ wd_4) g38 E43 F45 F47 V41 rfl (Nat.le_of_ble_eq_true rfl) (Nat.le_of_ble_eq_true rfl) hp42 hcs hcz Sf48 rfl (W := 1) rfl (by decide) (by decide) (k' := 3) rfl (n' := 8) rfl (by decide) (by decide) fun T42 h42 t42 b42 X42 K42 y42 S42 => ?_
    refine X42.astore i38_92 rfl (Ls' := #[.val (.int p0), .val (.int p1), .val (.int (p0 &&& (255 : Int32))), .val (.int (((p0.toUInt32 >>> ((8 : Int32) &&& 31).toUInt32).toInt32) &&& (255 : Int32))), .val (.int (((p0.toUInt32 >>> ((16 : Int32) &&& 31).toUInt32).toInt32) &&& (255 : Int32))), .val (.int (2 : Int32)), .val (.ref a38), .unset, .unset, .unset, .unset]) rfl ?_
    refine X42.goto i38_94 j94_28 ?_
    refine X42.aload i38_122 rfl rfl ?_
    refine X42.callS hl (argsL := [(.ref a38)]) i38_124 (c_ew l hw hEL hcs hcz hfm hfr hmo X42.old a38 t42 b42 [(p0 &&& (255 : Int32)), (((p0.toUInt32 >>> ((8 : Int32) &&& 31).toUInt32).toInt32) &&& (255 : Int32))] S42 (Nat.le_of_ble_eq_true rfl)) (hw _ wd_30) (hw _ wd_31) (hw _ wd_32) (hw _ wd_33) (by decide) sf_nil pd25 rfl rfl rfl (W := 0) rfl (by decide) (by decide) (k' := 13) rfl (n' := 112) rfl (by decide) (by decide) fun vm49 T49 h49 v49 X49 r49 Q49 => ?_
    obtain ⟨p_49, x_49, lm_49, tx_49, kx_49, rfl, q49_0, q49_1, q49_2, q49_3, q49_4, q49_5, q49_6, q49_7, q49_8, q49_9, q49_10⟩ := Q49
    have g50 := Nat.le_trans X42.n0le q49_1
    show Go _ _ _ _ _ _ _ T49 127 #[.val (.int p0), .val (.int p1), .val (.int (p0 &&& (255 : Int32))), .val (.int (((p0.toUInt32 >>> ((8 : Int32) &&& 31).toUInt32).toInt32) &&& (255 : Int32))), .val (.int (((p0.toUInt32 >>> ((16 : Int32) &&& 31).toUInt32).toInt32) &&& (255 : Int32))), .val (.int (2 : Int32)), .val (.ref a38), .unset, .unset, .unset, .unset] [(.ref p_49)]
    have S51 : Str Z h49 x_49 tx_49 kx_49 [(116 : Int32), (104 : Int32), (101 : Int32), (32 : Int32), (101 : Int32), (110 : Int32), (116 : Int32), (114 : Int32), (121 : Int32), (32 : Int32), (34 : Int32), (p0 &&& (255 : Int32)), (((p0.toUInt32 >>> ((8 : Int32) &&& 31).toUInt32).toInt32) &&& (255 : Int32)), (34 : Int32)] := q49_10
    refine X49.astore i38_127 rfl (Ls' := #[.val (.int p0), .val (.int p1), .val (.int (p0 &&& (255 : Int32))), .val (.int (((p0.toUInt32 >>> ((8 : Int32) &&& 31).toUInt32).toInt32) &&& (255 : Int32))), .val (.int (((p0.toUInt32 >>> ((16 : Int32) &&& 31).toUInt32).toInt32) &&& (255 : Int32))), .val (.int (2 : Int32)), .val (.ref a38), .val (.ref p_49), .unset, .unset, .unset]) rfl ?_
    refine X49.aload i38_129 rfl rfl ?_
    refine X49.callV hl (argsL := []) (a := p_49) i38_131 (c_gname l hw hEL hcs hcz hfm hfr hmo X49.old p_49 a38 q49_3) q49_2 (hw _ wd_181) (hw _ wd_182) (hw _ wd_184) (nfSel X49.zw (hw _ wd_184)) (hw _ wd_183) (hw _ wd_36) (hw _ wd_185) (by decide) sf_nil pd22 rfl rfl rfl (W := 0) rfl (by decide) (by decide) (k' := 13) rfl (n' := 112) rfl (by decide) (by decide) fun vm52 T52 h52 v52 X52 r52 Q52 => ?_
    obtain ⟨rfl, rfl⟩ := Q52
    show Go _ _ _ _ _ _ _ T52 134 #[.val (.int p0), .val (.int p1), .val (.int (p0 &&& (255 : Int32))), .val (.int (((p0.toUInt32 >>> ((8 : Int32) &&& 31).toUInt32).toInt32) &&& (255 : Int32))), .val (.int (((p0.toUInt32 >>> ((16 : Int32) &&& 31).toUInt32).toInt32) &&& (255 : Int32))), .val (.int (2 : Int32)), .val (.ref a38), .val (.ref p_49), .unset, .unset, .unset] [(.ref a38)]
    refine X52.astore i38_134 rfl (Ls' := #[.val (.int p0), .val (.int p1), .val (.int (p0 &&& (255 : Int32))), .val (.int (((p0.toUInt32 >>> ((8 : Int32) &&& 31).toUInt32).toInt32) &&& (255 : Int32))), .val (.int (((p0.toUInt32 >>> ((16 : Int32) &&& 31).toUInt32).toInt32) &&& (255 : Int32))), .val (.int (2 : Int32)), .val (.ref a38), .val (.ref p_49), .val (.ref a38), .unset, .unset]) rfl ?_
    refine X52.aload i38_136 rfl rfl ?_
    refine X52.nullN i38_138 ?_
    refine X52.aload i38_141 rfl rfl ?_
    refine X52.aload i38_143 rfl rfl ?_
    have E54 := (S42.1.ext q49_0)
    refine X52.callV hl (argsL := [(.ref a38)]) (a := a38) i38_145 (c_seq l hw hEL hcs hcz hfm hfr hmo X52.old a38 ) E54 (hw _ wd_186) (hw _ wd_187) (hw _ wd_189) (nfSel X52.zw (hw _ wd_189)) (hw _ wd_188) (hw _ wd_2) (hw _ wd_190) (by decide) sf_nil pd26 rfl rfl rfl (W := 0) rfl (by decide) (by decide) (k' := 13) rfl (n' := 112) rfl (by decide) (by decide) fun vm53 T53 h53 v53 X53 r53 Q53 => ?_
    obtain ⟨rfl, rfl⟩ := Q53
    show Go _ _ _ _ _ _ _ T53 148 #[.val (.int p0), .val (.int p1), .val (.int (p0 &&& (255 : Int32))), .val (.int (((p0.toUInt32 >>> ((8 : Int32) &&& 31).toUInt32).toInt32) &&& (255 : Int32))), .val (.int (((p0.toUInt32 >>> ((16 : Int32) &&& 31).toUInt32).toInt32) &&& (255 : Int32))), .val (.int (2 : Int32)), .val (.ref a38), .val (.ref p_49), .val (.ref a38), .unset, .unset] [(.int (1 : Int32))]
    refine X53.ifN i38_148 (by decide) ?_
    refine X53.aload i38_151 rfl rfl ?_
    refine X53.callV hl (argsL := []) (a := p_49) i38_153 (c_gtype l hw hEL hcs hcz hfm hfr hmo X53.old p_49 q49_4) q49_2 (hw _ wd_191) (hw _ wd_192) (hw _ wd_194) (nfSel X53.zw (hw _ wd_194)) (hw _ wd_193) (hw _ wd_36) (hw _ wd_195) (by decide) sf_nil pd27 rfl rfl rfl (W := 0) rfl (by decide) (by decide) (k' := 13) rfl (n' := 112) rfl (by decide) (by decide) fun vm55 T55 h55 v55 X55 r55 Q55 => ?_
    obtain ⟨rfl, rfl⟩ := Q55
    show Go _ _ _ _ _ _ _ T55 156 #[.val (.int p0), .val (.int p1), .val (.int (p0 &&& (255 : Int32))), .val (.int (((p0.toUInt32 >>> ((8 : Int32) &&& 31).toUInt32).toInt32) &&& (255 : Int32))), .val (.int (((p0.toUInt32 >>> ((16 : Int32) &&& 31).toUInt32).toInt32) &&& (255 : Int32))), .val (.int (2 : Int32)), .val (.ref a38), .val (.ref p_49), .val (.ref a38), .unset, .unset] [(.ref mo)]
    refine X55.ldcM i38_156 (hw _ wd_196) hmo fun T56 X56 => ?_
    refine X56.acN i38_158 rfl rfl (XT.aa_ne_f rfl) ?_
    refine X56.aload i38_161 rfl rfl ?_
    refine X56.callV hl (argsL := []) (a := p_49) i38_163 (c_gfillsHeld l hw hEL hcs hcz hfm hfr hmo X56.old p_49 q49_7) q49_2 (hw _ wd_197) (hw _ wd_198) (hw _ wd_200) (nfSel X56.zw (hw _ wd_200)) (hw _ wd_199) (hw _ wd_36) (hw _ wd_201) (by decide) sf_nil pd11 rfl rfl rfl (W := 0) rfl (by decide) (by decide) (k' := 13) rfl (n' := 112) rfl (by decide) (by decide) fun vm57 T57 h57 v57 X57 r57 Q57 => ?_
    obtain ⟨rfl, rfl⟩ := Q57
    show Go _ _ _ _ _ _ _ T57 166 #[.val (.int p0), .val (.int p1), .val (.int (p0 &&& (255 : Int32))), .val (.int (((p0.toUInt32 >>> ((8 : Int32) &&& 31).toUInt32).toInt32) &&& (255 : Int32))), .val (.int (((p0.toUInt32 >>> ((16 : Int32) &&& 31).toUInt32).toInt32) &&& (255 : Int32))), .val (.int (2 : Int32)), .val (.ref a38), .val (.ref p_49), .val (.ref a38), .unset, .unset] [(.int (0 : Int32))]
    refine X57.ifN i38_166 (by decide) ?_
    refine X57.aload i38_169 rfl rfl ?_
    refine X57.callV hl (argsL := []) (a := p_49) i38_171 (c_gmember l hw hEL hcs hcz hfm hfr hmo X57.old p_49 q49_8) q49_2 (hw _ wd_202) (hw _ wd_203) (hw _ wd_205) (nfSel X57.zw (hw _ wd_205)) (hw _ wd_204) (hw _ wd_36) (hw _ wd_206) (by decide) sf_nil pd28 rfl rfl rfl (W := 0) rfl (by decide) (by decide) (k' := 13) rfl (n' := 112) rfl (by decide) (by decide) fun vm58 T58 h58 v58 X58 r58 Q58 => ?_
    obtain ⟨rfl, rfl⟩ := Q58
    show Go _ _ _ _ _ _ _ T58 174 #[.val (.int p0), .val (.int p1), .val (.int (p0 &&& (255 : Int32))), .val (.int (((p0.toUInt32 >>> ((8 : Int32) &&& 31).toUInt32).toInt32) &&& (255 : Int32))), .val (.int (((p0.toUInt32 >>> ((16 : Int32) &&& 31).toUInt32).toInt32) &&& (255 : Int32))), .val (.int (2 : Int32)), .val (.ref a38), .val (.ref p_49), .val (.ref a38), .unset, .unset] [.null]
    refine X58.nonnullN i38_174 ?_
    refine X58.aload i38_177 rfl rfl ?_
    refine X58.callV hl (argsL := []) (a := p_49) i38_179 (c_ghandle l hw hEL hcs hcz hfm hfr hmo X58.old p_49 q49_9) q49_2 (hw _ wd_207) (hw _ wd_208) (hw _ wd_210) (nfSel X58.zw (hw _ wd_210)) (hw _ wd_209) (hw _ wd_36) (hw _ wd_211) (by decide) sf_nil pd28 rfl rfl rfl (W := 0) rfl (by decide) (by decide) (k' := 13) rfl (n' := 112) rfl (by decide) (by decide) fun vm59 T59 h59 v59 X59 r59 Q59 => ?_
    obtain ⟨rfl, rfl⟩ := Q59
    show Go _ _ _ _ _ _ _ T59 182 #[.val (.int p0), .val (.int p1), .val (.int (p0 &&& (255 : Int32))), .val (.int (((p0.toUInt32 >>> ((8 : Int32) &&& 31).toUInt32).toInt32) &&& (255 : Int32))), .val (.int (((p0.toUInt32 >>> ((16 : Int32) &&& 31).toUInt32).toInt32) &&& (255 : Int32))), .val (.int (2 : Int32)), .val (.ref a38), .val (.ref p_49), .val (.ref a38), .unset, .unset] [.null]
    refine X59.nonnullN i38_182 ?_
    refine X59.iconst i38_185 (z := (1 : Int32)) rfl ?_
    refine X59.goto i38_186 j186_4 ?_
    refine X59.istore i38_190 (Ls' := #[.val (.int p0), .val (.int p1), .val (.int (p0 &&& (255 : Int32))), .val (.int (((p0.toUInt32 >>> ((8 : Int32) &&& 31).toUInt32).toInt32) &&& (255 : Int32))), .val (.int (((p0.toUInt32 >>> ((16 : Int32) &&& 31).toUInt32).toInt32) &&& (255 : Int32))), .val (.int (2 : Int32)), .val (.ref a38), .val (.ref p_49), .val (.ref a38), .val (.int (1 : Int32)), .unset]) rfl ?_
    refine X59.aload i38_192 rfl rfl ?_
    refine X59.callV hl (argsL := []) (a := p_49) i38_194 (c_gtoString l hw hEL hcs hcz hfm hfr hmo X59.old p_49 x_49 q49_5) q49_2 (hw _ wd_212) (hw _ wd_213) (hw _ wd_215) (nfSel X59.zw (hw _ wd_215)) (hw _ wd_214) (hw _ wd_36) (hw _ wd_216) (by decide) sf_nil pd22 rfl rfl rfl (W := 0) rfl (by decide) (by decide) (k' := 13) rfl (n' := 112) rfl (by decide) (by decide) fun vm60 T60 h60 v60 X60 r60 Q60 => ?_
    obtain ⟨rfl, rfl⟩ := Q60
    show Go _ _ _ _ _ _ _ T60 197 #[.val (.int p0), .val (.int p1), .val (.int (p0 &&& (255 : Int32))), .val (.int (((p0.toUInt32 >>> ((8 : Int32) &&& 31).toUInt32).toInt32) &&& (255 : Int32))), .val (.int (((p0.toUInt32 >>> ((16 : Int32) &&& 31).toUInt32).toInt32) &&& (255 : Int32))), .val (.int (2 : Int32)), .val (.ref a38), .val (.ref p_49), .val (.ref a38), .val (.int (1 : Int32)), .unset] [(.ref x_49)]
    refine X60.astore i38_197 rfl (Ls' := #[.val (.int p0), .val (.int p1), .val (.int (p0 &&& (255 : Int32))), .val (.int (((p0.toUInt32 >>> ((8 : Int32) &&& 31).toUInt32).toInt32) &&& (255 : Int32))), .val (.int (((p0.toUInt32 >>> ((16 : Int32) &&& 31).toUInt32).toInt32) &&& (255 : Int32))), .val (.int (2 : Int32)), .val (.ref a38), .val (.ref p_49), .val (.ref a38), .val (.int (1 : Int32)), .val (.ref x_49)]) rfl ?_
    refine X60.iload i38_199 rfl ?_
    refine X60.ifN i38_201 (by decide) ?_
    refine X60.aload i38_204 rfl rfl ?_
    refine X60.nullN i38_206 ?_
    refine X60.aload i38_209 rfl rfl ?_
    refine X60.iload i38_211 rfl ?_
    refine X60.iload_n i38_213 rfl ?_
    refine X60.iload_n i38_214 rfl ?_
    refine X60.iload i38_215 rfl ?_
    refine X60.callS hl (argsL := [(.ref x_49), (.int (2 : Int32)), (.int (p0 &&& (255 : Int32))), (.int (((p0.toUInt32 >>> ((8 : Int32) &&& 31).toUInt32).toInt32) &&& (255 : Int32))), (.int (((p0.toUInt32 >>> ((16 : Int32) &&& 31).toUInt32).toInt32) &&& (255 : Int32)))]) i38_217 (c_des2 l hw hEL hcs hcz hfm hfr hmo X60.old x_49 tx_49 kx_49 (p0 &&& (255 : Int32)) (((p0.toUInt32 >>> ((8 : Int32) &&& 31).toUInt32).toInt32) &&& (255 : Int32)) (((p0.toUInt32 >>> ((16 : Int32) &&& 31).toUInt32).toInt32) &&& (255 : Int32)) S51) (hw _ wd_217) (hw _ wd_218) (hw _ wd_219) (hw _ wd_220) (by decide) sf_nil pd29 rfl rfl rfl (W := 0) rfl (by decide) (by decide) (k' := 13) rfl (n' := 112) rfl (by decide) (by decide) fun vm61 T61 h61 v61 X61 r61 Q61 => ?_
    obtain ⟨rfl, rfl⟩ := Q61
    show Go _ _ _ _ _ _ _ T61 220 #[.val (.int p0), .val (.int p1), .val (.int (p0 &&& (255 : Int32))), .val (.int (((p0.toUInt32 >>> ((8 : Int32) &&& 31).toUInt32).toInt32) &&& (255 : Int32))), .val (.int (((p0.toUInt32 >>> ((16 : Int32) &&& 31).toUInt32).toInt32) &&& (255 : Int32))), .val (.int (2 : Int32)), .val (.ref a38), .val (.ref p_49), .val (.ref a38), .val (.int (1 : Int32)), .val (.ref x_49)] [(.int (1 : Int32))]
    refine X61.ifN i38_220 (by decide) ?_
    refine X61.iconst i38_223 (z := (1 : Int32)) rfl ?_
    refine X61.goto i38_224 j224_4 ?_
    exact X61.ireturn i38_228 (t := .boolean) rfl (by decide) rfl (by decide) (by decide) (fun sf hsf => rfl)
  · skip
    refine X.iconst i38_29 (z := (3 : Int32)) rfl ?_
    refine X.iand i38_30 (z := (3 : Int32)) hn0 ?_
    refine X.istore i38_31 (Ls' := #[.val (.int p0), .val (.int p1), .val (.int (p0 &&& (255 : Int32))), .val (.int (((p0.toUInt32 >>> ((8 : Int32) &&& 31).toUInt32).toInt32) &&& (255 : Int32))), .val (.int (((p0.toUInt32 >>> ((16 : Int32) &&& 31).toUInt32).toInt32) &&& (255 : Int32))), .val (.int (3 : Int32)), .unset, .unset, .unset, .unset, .unset]) rfl ?_
    refine X.iload i38_33 rfl ?_
    refine X.ifY i38_35 j35_18 (by decide) ?_
    refine X.iload i38_53 rfl ?_
    refine X.iconst i38_55 (z := (1 : Int32)) rfl ?_
    refine X.icY i38_56 j56_12 (by decide) ?_
    refine X.iload i38_68 rfl ?_
    refine X.iconst i38_70 (z := (2 : Int32)) rfl ?_
    refine X.icY i38_71 j71_26 (by decide) ?_
    refine X.new i38_97 (hw _ wd_0) (hw _ wd_1) (hw _ wd_2) (k' := 1) rfl (n' := 4) rfl (by decide) (by decide) fun T62 h62 a62 X62 E62 z62 g62 A62 D62 U62 Sf62 => ?_
    refine X62.dup i38_100 rfl ?_
    refine X62.iconst i38_101 (z := (3 : Int32)) rfl ?_
    refine X62.newarray i38_102 (ty := .char) rfl (hw _ wd_3) (by decide) (cap := 3) (by decide) (by decide) (k' := 2) rfl (n' := 7) rfl (by decide) (by decide) fun T63 h63 a63 c63 X63 E63 z63 g63 V63 Sf63 => ?_
    have V63 : Arv Z h63 a63 c63 .char (3 : Int32) [(.int (0 : Int32)), (.int (0 : Int32)), (.int (0 : Int32))] (.int (0 : Int32)) := V63.pad (pad_rep [] (.int (0 : Int32)) 3)
    refine X63.dup i38_104 rfl ?_
    refine X63.iconst i38_105 (z := (0 : Int32)) rfl ?_
    refine X63.iload_n i38_106 rfl ?_
    refine X63.castore i38_107 V63 ⟨by decide, by decide⟩ (i := 0) rfl (Nat.le_of_ble_eq_true rfl) (y := (p0 &&& (255 : Int32))) (i2c_mask _) g63 fun T64 h64 X64 W64 V64 => ?_
    have V64 : Arv Z h64 a63 c63 .char (3 : Int32) [(.int (p0 &&& (255 : Int32))), (.int (0 : Int32)), (.int (0 : Int32))] (.int (0 : Int32)) := V64
    refine X64.dup i38_108 rfl ?_
    refine X64.iconst i38_109 (z := (1 : Int32)) rfl ?_
    refine X64.iload_n i38_110 rfl ?_
    refine X64.castore i38_111 V64 ⟨by decide, by decide⟩ (i := 1) rfl (Nat.le_of_ble_eq_true rfl) (y := (((p0.toUInt32 >>> ((8 : Int32) &&& 31).toUInt32).toInt32) &&& (255 : Int32))) (i2c_mask _) g63 fun T65 h65 X65 W65 V65 => ?_
    have V65 : Arv Z h65 a63 c63 .char (3 : Int32) [(.int (p0 &&& (255 : Int32))), (.int (((p0.toUInt32 >>> ((8 : Int32) &&& 31).toUInt32).toInt32) &&& (255 : Int32))), (.int (0 : Int32))] (.int (0 : Int32)) := V65
    refine X65.dup i38_112 rfl ?_
    refine X65.iconst i38_113 (z := (2 : Int32)) rfl ?_
    refine X65.iload i38_114 rfl ?_
    refine X65.castore i38_116 V65 ⟨by decide, by decide⟩ (i := 2) rfl (Nat.le_of_ble_eq_true rfl) (y := (((p0.toUInt32 >>> ((16 : Int32) &&& 31).toUInt32).toInt32) &&& (255 : Int32))) (i2c_mask _) g63 fun T66 h66 X66 W66 V66 => ?_
    have V66 : Arv Z h66 a63 c63 .char (3 : Int32) [(.int (p0 &&& (255 : Int32))), (.int (((p0.toUInt32 >>> ((8 : Int32) &&& 31).toUInt32).toInt32) &&& (255 : Int32))), (.int (((p0.toUInt32 >>> ((16 : Int32) &&& 31).toUInt32).toInt32) &&& (255 : Int32)))] (.int (0 : Int32)) := V66
    have E68 := ((((A62.ext E63).wr W64).wr W65).wr W66)
    have F69 : Fld Z h62 a62 "java/lang/String" "value" "[B" .null := D62 (Or.inr (hw _ wd_29)) (ty := (.array .byte)) (by decide)
    have F70 := ((((F69.ext E63).other W64 (Or.inl (Nat.ne_of_lt (Nat.lt_of_lt_of_le (A62).lt (Nat.le_of_eq z63))))).other W65 (Or.inl (Nat.ne_of_lt (Nat.lt_of_lt_of_le (A62).lt (Nat.le_of_eq z63))))).other W66 (Or.inl (Nat.ne_of_lt (Nat.lt_of_lt_of_le (A62).lt (Nat.le_of_eq z63)))))
    have F71 : Fld Z h62 a62 "java/lang/String" "coder" "B" (.int (0 : Int32)) := D62 (Or.inr (hw _ wd_27)) (ty := .byte) (by decide)
    have F72 := ((((F71.ext E63).other W64 (Or.inl (Nat.ne_of_lt (Nat.lt_of_lt_of_le (A62).lt (Nat.le_of_eq z63))))).other W65 (Or.inl (Nat.ne_of_lt (Nat.lt_of_lt_of_le (A62).lt (Nat.le_of_eq z63))))).other W66 (Or.inl (Nat.ne_of_lt (Nat.lt_of_lt_of_le (A62).lt (Nat.le_of_eq z63)))))
    have Sf73 := (((((CHr.ext E63 X62.chv)).trans (CHr.wr W64 (Safe.arv X63.zw.alike V63 (by simp)) X63.chv)).trans (CHr.wr W65 (Safe.arv X64.zw.alike V64 (by simp)) X64.chv)).trans (CHr.wr W66 (Safe.arv X65.zw.alike V65 (by simp)) X65.chv)).safe (A62).lt Sf62
    have hp67 : ∀ c9 ∈ ([(p0 &&& (255 : Int32)), (((p0.toUInt32 >>> ((8 : Int32) &&& 31).toUInt32).toInt32) &&& (255 : Int32)), (((p0.toUInt32 >>> ((16 : Int32) &&& 31).toUInt32).toInt32) &&& (255 : Int32))] : List Int32), ¬ c9 < 0 ∧ ¬ (255 : Int32) < c9 := (own_allS (own_and255 _) (own_allS (own_and255 _) (own_allS (own_and255 _) own_all0)))
    refine own_strInit X66 hw (cs := [(p0 &&& (255 : Int32)), (((p0.toUInt32 >>> ((8 : Int32) &&& 31).toUInt32).toInt32) &&& (255 : Int32)), (((p0.toUInt32 >>> ((16 : Int32) &&& 31).toUInt32).toInt32) &&& (255 : Int32))]) (c0 := a63) i38_117 (hw _ wd_4) g62 E68 F70 F72 V66 rfl (Nat.le_of_ble_eq_true rfl) (Nat.le_of_ble_eq_true rfl) hp67 hcs hcz Sf73 rfl (W := 1) rfl (by decide) (by decide) (k' := 3) rfl (n' := 10) rfl (by decide) (by decide) fun T67 h67 t67 b67 X67 K67 y67 S67 => ?_
    refine X67.astore i38_120 rfl (Ls' := #[.val (.int p0), .val (.int p1), .val (.int (p0 &&& (255 : Int32))), .val (.int (((p0.toUInt32 >>> ((8 : Int32) &&& 31).toUInt32).toInt32) &&& (255 : Int32))), .val (.int (((p0.toUInt32 >>> ((16 : Int32) &&& 31).toUInt32).toInt32) &&& (255 : Int32))), .val (.int (3 : Int32)), .val (.ref a62), .unset, .unset, .unset, .unset]) rfl ?_
    refine X67.aload i38_122 rfl rfl ?_
    refine X67.callS hl (argsL := [(.ref a62)]) i38_124 (c_ew l hw hEL hcs hcz hfm hfr hmo X67.old a62 t67 b67 [(p0 &&& (255 : Int32)), (((p0.toUInt32 >>> ((8 : Int32) &&& 31).toUInt32).toInt32) &&& (255 : Int32)), (((p0.toUInt32 >>> ((16 : Int32) &&& 31).toUInt32).toInt32) &&& (255 : Int32))] S67 (Nat.le_of_ble_eq_true rfl)) (hw _ wd_30) (hw _ wd_31) (hw _ wd_32) (hw _ wd_33) (by decide) sf_nil pd25 rfl rfl rfl (W := 0) rfl (by decide) (by decide) (k' := 13) rfl (n' := 114) rfl (by decide) (by decide) fun vm74 T74 h74 v74 X74 r74 Q74 => ?_
    obtain ⟨p_74, x_74, lm_74, tx_74, kx_74, rfl, q74_0, q74_1, q74_2, q74_3, q74_4, q74_5, q74_6, q74_7, q74_8, q74_9, q74_10⟩ := Q74
    have g75 := Nat.le_trans X67.n0le q74_1
    show Go _ _ _ _ _ _ _ T74 127 #[.val (.int p0), .val (.int p1), .val (.int (p0 &&& (255 : Int32))), .val (.int (((p0.toUInt32 >>> ((8 : Int32) &&& 31).toUInt32).toInt32) &&& (255 : Int32))), .val (.int (((p0.toUInt32 >>> ((16 : Int32) &&& 31).toUInt32).toInt32) &&& (255 : Int32))), .val (.int (3 : Int32)), .val (.ref a62), .unset, .unset, .unset, .unset] [(.ref p_74)]
    have S76 : Str Z h74 x_74 tx_74 kx_74 [(116 : Int32), (104 : Int32), (101 : Int32), (32 : Int32), (101 : Int32), (110 : Int32), (116 : Int32), (114 : Int32), (121 : Int32), (32 : Int32), (34 : Int32), (p0 &&& (255 : Int32)), (((p0.toUInt32 >>> ((8 : Int32) &&& 31).toUInt32).toInt32) &&& (255 : Int32)), (((p0.toUInt32 >>> ((16 : Int32) &&& 31).toUInt32).toInt32) &&& (255 : Int32)), (34 : Int32)] := q74_10
    refine X74.astore i38_127 rfl (Ls' := #[.val (.int p0), .val (.int p1), .val (.int (p0 &&& (255 : Int32))), .val (.int (((p0.toUInt32 >>> ((8 : Int32) &&& 31).toUInt32).toInt32) &&& (255 : Int32))), .val (.int (((p0.toUInt32 >>> ((16 : Int32) &&& 31).toUInt32).toInt32) &&& (255 : Int32))), .val (.int (3 : Int32)), .val (.ref a62), .val (.ref p_74), .unset, .unset, .unset]) rfl ?_
    refine X74.aload i38_129 rfl rfl ?_
    refine X74.callV hl (argsL := []) (a := p_74) i38_131 (c_gname l hw hEL hcs hcz hfm hfr hmo X74.old p_74 a62 q74_3) q74_2 (hw _ wd_181) (hw _ wd_182) (hw _ wd_184) (nfSel X74.zw (hw _ wd_184)) (hw _ wd_183) (hw _ wd_36) (hw _ wd_185) (by decide) sf_nil pd22 rfl rfl rfl (W := 0) rfl (by decide) (by decide) (k' := 13) rfl (n' := 114) rfl (by decide) (by decide) fun vm77 T77 h77 v77 X77 r77 Q77 => ?_
    obtain ⟨rfl, rfl⟩ := Q77
    show Go _ _ _ _ _ _ _ T77 134 #[.val (.int p0), .val (.int p1), .val (.int (p0 &&& (255 : Int32))), .val (.int (((p0.toUInt32 >>> ((8 : Int32) &&& 31).toUInt32).toInt32) &&& (255 : Int32))), .val (.int (((p0.toUInt32 >>> ((16 : Int32) &&& 31).toUInt32).toInt32) &&& (255 : Int32))), .val (.int (3 : Int32)), .val (.ref a62), .val (.ref p_74), .unset, .unset, .unset] [(.ref a62)]
    refine X77.astore i38_134 rfl (Ls' := #[.val (.int p0), .val (.int p1), .val (.int (p0 &&& (255 : Int32))), .val (.int (((p0.toUInt32 >>> ((8 : Int32) &&& 31).toUInt32).toInt32) &&& (255 : Int32))), .val (.int (((p0.toUInt32 >>> ((16 : Int32) &&& 31).toUInt32).toInt32) &&& (255 : Int32))), .val (.int (3 : Int32)), .val (.ref a62), .val (.ref p_74), .val (.ref a62), .unset, .unset]) rfl ?_
    refine X77.aload i38_136 rfl rfl ?_
    refine X77.nullN i38_138 ?_
    refine X77.aload i38_141 rfl rfl ?_
    refine X77.aload i38_143 rfl rfl ?_
    have E79 := (S67.1.ext q74_0)
    refine X77.callV hl (argsL := [(.ref a62)]) (a := a62) i38_145 (c_seq l hw hEL hcs hcz hfm hfr hmo X77.old a62 ) E79 (hw _ wd_186) (hw _ wd_187) (hw _ wd_189) (nfSel X77.zw (hw _ wd_189)) (hw _ wd_188) (hw _ wd_2) (hw _ wd_190) (by decide) sf_nil pd26 rfl rfl rfl (W := 0) rfl (by decide) (by decide) (k' := 13) rfl (n' := 114) rfl (by decide) (by decide) fun vm78 T78 h78 v78 X78 r78 Q78 => ?_
    obtain ⟨rfl, rfl⟩ := Q78
    show Go _ _ _ _ _ _ _ T78 148 #[.val (.int p0), .val (.int p1), .val (.int (p0 &&& (255 : Int32))), .val (.int (((p0.toUInt32 >>> ((8 : Int32) &&& 31).toUInt32).toInt32) &&& (255 : Int32))), .val (.int (((p0.toUInt32 >>> ((16 : Int32) &&& 31).toUInt32).toInt32) &&& (255 : Int32))), .val (.int (3 : Int32)), .val (.ref a62), .val (.ref p_74), .val (.ref a62), .unset, .unset] [(.int (1 : Int32))]
    refine X78.ifN i38_148 (by decide) ?_
    refine X78.aload i38_151 rfl rfl ?_
    refine X78.callV hl (argsL := []) (a := p_74) i38_153 (c_gtype l hw hEL hcs hcz hfm hfr hmo X78.old p_74 q74_4) q74_2 (hw _ wd_191) (hw _ wd_192) (hw _ wd_194) (nfSel X78.zw (hw _ wd_194)) (hw _ wd_193) (hw _ wd_36) (hw _ wd_195) (by decide) sf_nil pd27 rfl rfl rfl (W := 0) rfl (by decide) (by decide) (k' := 13) rfl (n' := 114) rfl (by decide) (by decide) fun vm80 T80 h80 v80 X80 r80 Q80 => ?_
    obtain ⟨rfl, rfl⟩ := Q80
    show Go _ _ _ _ _ _ _ T80 156 #[.val (.int p0), .val (.int p1), .val (.int (p0 &&& (255 : Int32))), .val (.int (((p0.toUInt32 >>> ((8 : Int32) &&& 31).toUInt32).toInt32) &&& (255 : Int32))), .val (.int (((p0.toUInt32 >>> ((16 : Int32) &&& 31).toUInt32).toInt32) &&& (255 : Int32))), .val (.int (3 : Int32)), .val (.ref a62), .val (.ref p_74), .val (.ref a62), .unset, .unset] [(.ref mo)]
    refine X80.ldcM i38_156 (hw _ wd_196) hmo fun T81 X81 => ?_
    refine X81.acN i38_158 rfl rfl (XT.aa_ne_f rfl) ?_
    refine X81.aload i38_161 rfl rfl ?_
    refine X81.callV hl (argsL := []) (a := p_74) i38_163 (c_gfillsHeld l hw hEL hcs hcz hfm hfr hmo X81.old p_74 q74_7) q74_2 (hw _ wd_197) (hw _ wd_198) (hw _ wd_200) (nfSel X81.zw (hw _ wd_200)) (hw _ wd_199) (hw _ wd_36) (hw _ wd_201) (by decide) sf_nil pd11 rfl rfl rfl (W := 0) rfl (by decide) (by decide) (k' := 13) rfl (n' := 114) rfl (by decide) (by decide) fun vm82 T82 h82 v82 X82 r82 Q82 => ?_
    obtain ⟨rfl, rfl⟩ := Q82
    show Go _ _ _ _ _ _ _ T82 166 #[.val (.int p0), .val (.int p1), .val (.int (p0 &&& (255 : Int32))), .val (.int (((p0.toUInt32 >>> ((8 : Int32) &&& 31).toUInt32).toInt32) &&& (255 : Int32))), .val (.int (((p0.toUInt32 >>> ((16 : Int32) &&& 31).toUInt32).toInt32) &&& (255 : Int32))), .val (.int (3 : Int32)), .val (.ref a62), .val (.ref p_74), .val (.ref a62), .unset, .unset] [(.int (0 : Int32))]
    refine X82.ifN i38_166 (by decide) ?_
    refine X82.aload i38_169 rfl rfl ?_
    refine X82.callV hl (argsL := []) (a := p_74) i38_171 (c_gmember l hw hEL hcs hcz hfm hfr hmo X82.old p_74 q74_8) q74_2 (hw _ wd_202) (hw _ wd_203) (hw _ wd_205) (nfSel X82.zw (hw _ wd_205)) (hw _ wd_204) (hw _ wd_36) (hw _ wd_206) (by decide) sf_nil pd28 rfl rfl rfl (W := 0) rfl (by decide) (by decide) (k' := 13) rfl (n' := 114) rfl (by decide) (by decide) fun vm83 T83 h83 v83 X83 r83 Q83 => ?_
    obtain ⟨rfl, rfl⟩ := Q83
    show Go _ _ _ _ _ _ _ T83 174 #[.val (.int p0), .val (.int p1), .val (.int (p0 &&& (255 : Int32))), .val (.int (((p0.toUInt32 >>> ((8 : Int32) &&& 31).toUInt32).toInt32) &&& (255 : Int32))), .val (.int (((p0.toUInt32 >>> ((16 : Int32) &&& 31).toUInt32).toInt32) &&& (255 : Int32))), .val (.int (3 : Int32)), .val (.ref a62), .val (.ref p_74), .val (.ref a62), .unset, .unset] [.null]
    refine X83.nonnullN i38_174 ?_
    refine X83.aload i38_177 rfl rfl ?_
    refine X83.callV hl (argsL := []) (a := p_74) i38_179 (c_ghandle l hw hEL hcs hcz hfm hfr hmo X83.old p_74 q74_9) q74_2 (hw _ wd_207) (hw _ wd_208) (hw _ wd_210) (nfSel X83.zw (hw _ wd_210)) (hw _ wd_209) (hw _ wd_36) (hw _ wd_211) (by decide) sf_nil pd28 rfl rfl rfl (W := 0) rfl (by decide) (by decide) (k' := 13) rfl (n' := 114) rfl (by decide) (by decide) fun vm84 T84 h84 v84 X84 r84 Q84 => ?_
    obtain ⟨rfl, rfl⟩ := Q84
    show Go _ _ _ _ _ _ _ T84 182 #[.val (.int p0), .val (.int p1), .val (.int (p0 &&& (255 : Int32))), .val (.int (((p0.toUInt32 >>> ((8 : Int32) &&& 31).toUInt32).toInt32) &&& (255 : Int32))), .val (.int (((p0.toUInt32 >>> ((16 : Int32) &&& 31).toUInt32).toInt32) &&& (255 : Int32))), .val (.int (3 : Int32)), .val (.ref a62), .val (.ref p_74), .val (.ref a62), .unset, .unset] [.null]
    refine X84.nonnullN i38_182 ?_
    refine X84.iconst i38_185 (z := (1 : Int32)) rfl ?_
    refine X84.goto i38_186 j186_4 ?_
    refine X84.istore i38_190 (Ls' := #[.val (.int p0), .val (.int p1), .val (.int (p0 &&& (255 : Int32))), .val (.int (((p0.toUInt32 >>> ((8 : Int32) &&& 31).toUInt32).toInt32) &&& (255 : Int32))), .val (.int (((p0.toUInt32 >>> ((16 : Int32) &&& 31).toUInt32).toInt32) &&& (255 : Int32))), .val (.int (3 : Int32)), .val (.ref a62), .val (.ref p_74), .val (.ref a62), .val (.int (1 : Int32)), .unset]) rfl ?_
    refine X84.aload i38_192 rfl rfl ?_
    refine X84.callV hl (argsL := []) (a := p_74) i38_194 (c_gtoString l hw hEL hcs hcz hfm hfr hmo X84.old p_74 x_74 q74_5) q74_2 (hw _ wd_212) (hw _ wd_213) (hw _ wd_215) (nfSel X84.zw (hw _ wd_215)) (hw _ wd_214) (hw _ wd_36) (hw _ wd_216) (by decide) sf_nil pd22 rfl rfl rfl (W := 0) rfl (by decide) (by decide) (k' := 13) rfl (n' := 114) rfl (by decide) (by decide) fun vm85 T85 h85 v85 X85 r85 Q85 => ?_
    obtain ⟨rfl, rfl⟩ := Q85
    show Go _ _ _ _ _ _ _ T85 197 #[.val (.int p0), .val (.int p1), .val (.int (p0 &&& (255 : Int32))), .val (.int (((p0.toUInt32 >>> ((8 : Int32) &&& 31).toUInt32).toInt32) &&& (255 : Int32))), .val (.int (((p0.toUInt32 >>> ((16 : Int32) &&& 31).toUInt32).toInt32) &&& (255 : Int32))), .val (.int (3 : Int32)), .val (.ref a62), .val (.ref p_74), .val (.ref a62), .val (.int (1 : Int32)), .unset] [(.ref x_74)]
    refine X85.astore i38_197 rfl (Ls' := #[.val (.int p0), .val (.int p1), .val (.int (p0 &&& (255 : Int32))), .val (.int (((p0.toUInt32 >>> ((8 : Int32) &&& 31).toUInt32).toInt32) &&& (255 : Int32))), .val (.int (((p0.toUInt32 >>> ((16 : Int32) &&& 31).toUInt32).toInt32) &&& (255 : Int32))), .val (.int (3 : Int32)), .val (.ref a62), .val (.ref p_74), .val (.ref a62), .val (.int (1 : Int32)), .val (.ref x_74)]) rfl ?_
    refine X85.iload i38_199 rfl ?_
    refine X85.ifN i38_201 (by decide) ?_
    refine X85.aload i38_204 rfl rfl ?_
    refine X85.nullN i38_206 ?_
    refine X85.aload i38_209 rfl rfl ?_
    refine X85.iload i38_211 rfl ?_
    refine X85.iload_n i38_213 rfl ?_
    refine X85.iload_n i38_214 rfl ?_
    refine X85.iload i38_215 rfl ?_
    refine X85.callS hl (argsL := [(.ref x_74), (.int (3 : Int32)), (.int (p0 &&& (255 : Int32))), (.int (((p0.toUInt32 >>> ((8 : Int32) &&& 31).toUInt32).toInt32) &&& (255 : Int32))), (.int (((p0.toUInt32 >>> ((16 : Int32) &&& 31).toUInt32).toInt32) &&& (255 : Int32)))]) i38_217 (c_des3 l hw hEL hcs hcz hfm hfr hmo X85.old x_74 tx_74 kx_74 (p0 &&& (255 : Int32)) (((p0.toUInt32 >>> ((8 : Int32) &&& 31).toUInt32).toInt32) &&& (255 : Int32)) (((p0.toUInt32 >>> ((16 : Int32) &&& 31).toUInt32).toInt32) &&& (255 : Int32)) S76) (hw _ wd_217) (hw _ wd_218) (hw _ wd_219) (hw _ wd_220) (by decide) sf_nil pd29 rfl rfl rfl (W := 0) rfl (by decide) (by decide) (k' := 13) rfl (n' := 114) rfl (by decide) (by decide) fun vm86 T86 h86 v86 X86 r86 Q86 => ?_
    obtain ⟨rfl, rfl⟩ := Q86
    show Go _ _ _ _ _ _ _ T86 220 #[.val (.int p0), .val (.int p1), .val (.int (p0 &&& (255 : Int32))), .val (.int (((p0.toUInt32 >>> ((8 : Int32) &&& 31).toUInt32).toInt32) &&& (255 : Int32))), .val (.int (((p0.toUInt32 >>> ((16 : Int32) &&& 31).toUInt32).toInt32) &&& (255 : Int32))), .val (.int (3 : Int32)), .val (.ref a62), .val (.ref p_74), .val (.ref a62), .val (.int (1 : Int32)), .val (.ref x_74)] [(.int (1 : Int32))]
    refine X86.ifN i38_220 (by decide) ?_
    refine X86.iconst i38_223 (z := (1 : Int32)) rfl ?_
    refine X86.goto i38_224 j224_4 ?_
    exact X86.ireturn i38_228 (t := .boolean) rfl (by decide) rfl (by decide) (by decide) (fun sf hsf => rfl)
set_option maxRecDepth 65536 in
set_option maxHeartbeats 40000000 in
theorem comes_1 {Post : Tables → Env → Array Value → State → Outcome → State → Prop} (hpost : ∀ tb e args s v u, (limb_1_1.after args s (.returned v) u = true ∧ limb_1_2.after args s (.returned v) u = true ∧ True) → ReturnedEndW s (.returned v) u (Jvm.fieldLocs frame_1_writes args s ++ Jvm.arrayLocs frame_1_arrays args s ++ Jvm.staticLocs frame_1_statics s) 32 3264 → Post tb e args s (.returned v) u) :
    ArmFor flags0 classFile x code maxLocals ret World_1 tables_1 room_1 Calls_1 rest_1 Pre_1 Post := by
  intro l hfl _ _ p e ha hc hk s m args below hf hA hF happ hP
  obtain ⟨hcalls, hrest, hpre⟩ := hP
  obtain ⟨-, -, -, hnamed, -, -, -, hat⟩ := (Spec.applies_iff hf).mp happ
  obtain ⟨hg, hn⟩ := and_e (Cond.before_iff.mp (show (Jvm.Cond.and given_1 narrow_1).before args s = true from hpre))
  obtain ⟨hcnt, hg⟩ := and_e hg
  obtain ⟨ha0, hg⟩ := and_e hg
  obtain ⟨w0, w1, rfl⟩ : ∃ w0 w1 : Value, args = #[w0, w1] := by
    have hs : args.size = 2 := by simpa [Cond.value, given_1] using hcnt
    obtain ⟨L⟩ := args
    match L, hs with
    | [w0, w1], _ => exact ⟨w0, w1, rfl⟩
  have hw := fun d (hd : d ∈ tables_1) => atoms_spec (ws := Jvm.Cond.code x code maxLocals ret :: tables_1) hat d (List.mem_cons_of_mem _ hd)
  obtain ⟨hsets, hown0⟩ := atoms_of _ (rest_1_c_eq ▸ (show rest_1_c.before _ s = true from hrest))
  have hfit : Fit s := fun {y c} hc i hi => by
    obtain ⟨ha, rfl⟩ := Array.getElem?_eq_some_iff.mp hc
    have q := List.all_eq_true.mp ((Array.all_eq_true_iff_forall_mem.mp hF) _ (Array.getElem_mem ha)) i (List.mem_range.mpr hi)
    simpa [Array.getElem?_eq_getElem hi] using q
  obtain ⟨p0, e0⟩ := is_v ha0
  obtain rfl : w0 = (.int p0) := Option.some.inj e0
  obtain ⟨p1, e1⟩ := is_v hg
  obtain rfl : w1 = (.int p1) := Option.some.inj e1
  have n5 := not_v (Cond.before_iff.mp (hsets _ (List.mem_of_getElem? (i := 2) rfl)))
  obtain ⟨zc, ec⟩ := is_v (Cond.before_iff.mp (hsets _ (List.mem_of_getElem? (i := 1) rfl)))
  have hcs : Sta s s.heap "java/lang/String" "COMPACT_STRINGS" "Z" (.int zc) := Sta.start ec (Or.inl (hsets _ (List.mem_of_getElem? (i := 0) rfl)))
  have hcz : ¬ (zc = (0 : Int32)) := gotF (Cond.eq_ints ec (Term.int_eval (0))) n5
  obtain ⟨fm, efm, hfr⟩ := isR_v (Cond.before_iff.mp (hsets _ (List.mem_of_getElem? (i := 8) rfl)))
  have hfm : Sta s s.heap "jdk/internal/util/Preconditions" "SIOOBE_FORMATTER" "Ljava/util/function/BiFunction;" fm := Sta.start efm (Or.inl (hsets _ (List.mem_of_getElem? (i := 7) rfl)))
  obtain ⟨cO, kO, mo, mo1, mo2, mo3, -⟩ := hcalls.1
  have hmo : OwnMir s "java/lang/Object" mo := ⟨cO, kO, mo1, mo2, mo3⟩
  have hEL : EW s (_ : Array Value) own_EL := (EW.cons (hw _ wd_57) lt1_a (EW.cons (hw _ wd_107) lt2_a (EW.cons (hw _ wd_257) lt0_a EW.nil)))
  have hCH : CHv s own_EL s.vm s.heap := CHv.start hEL hcalls.2.1 (Cond.before_iff.mpr (not_i (nay (Cond.eq_ints ec (Term.int_eval (0))) hcz)) : Jvm.Lit.compactW.before _ s = true) (hw _ wd_19) (hw _ wd_1)
  obtain ⟨n, o, h1, h2, h3, _, L, rfl, ⟨rfl, N, -⟩, -, hq⟩ := own_law l hw hEL hcs hcz hfm hfr hmo p0 p1 p e ha hc hk s m _ below hf ((Spec.applies_iff_loose hf).mp happ).1 ⟨rfl, State.Warmed39.refl s, rfl, hCH, fun _ z => nomatch z⟩ trivial
  refine ⟨n, _, h1, h2, h3, hpost _ _ _ _ _ _ ⟨Cond.after_iff.mpr rfl, Cond.after_iff.mpr (eq_i res_at (Term.int_eval (1)) rfl), trivial⟩ ⟨hq.1.1, hq.1.2.1, hq.1.2.2.1, (hq.1.2.2.2.sift fun y hy => Or.inr (N y hy)).mono (by decide) (by decide)⟩⟩
theorem main_1_1 : Claimed_1_1 := comes_1 fun _ _ _ _ _ _ h hF => ⟨h.1, hF⟩
theorem main_1_2 : Claimed_1_2 := comes_1 fun _ _ _ _ _ _ h hF => ⟨h.2.1, hF⟩
end Jvm.Pilot.@@N@@
namespace Jvm.Pilot.@@N@@
open Jvm Jvm.ClassFile Sem Op Lib Jvm.Free Jvm.Stand Jvm.Pilot.@@N@@.Jvm.D
/-! MADE BY PROGRAM (witnessworld.py) out of the Statement's table words and the real class files: 30 classes; the members and pool entries that the words name. The judged class is class 1, her method 1. -/
namespace start1
open Jvm.ClassFile
def u (s : String) : CpInfo := .utf8 (stringToUtf16 s)
/-- a pool by its gaps: so many unusable entries, then the entry; so many at the end -/
def gap : Nat → List CpInfo → List CpInfo
  | 0, r => r
  | n + 1, r => .unusable :: gap n r
def poolList (es : List (Nat × CpInfo)) (last : Nat) : List CpInfo := es.foldr (fun e r => gap e.1 (e.2 :: r)) (gap last [])
def pool (es : List (Nat × CpInfo)) (last : Nat) : Array CpInfo := ⟨poolList es last⟩
def fileOf (pool : Array CpInfo) (this : Nat) (attrs : Array Attribute := #[]) (ms : Array MethodInfo := #[]) (fl : Nat := 33) (sup : Nat := 0) (ifs : Array Nat := #[]) (fds : Array FieldInfo := #[]) : ClassFile where
  minorVersion := 0
  majorVersion := 65
  constantPool := pool
  accessFlags := fl
  thisClass := this
  superClass := sup
  interfaces := ifs
  fields := fds
  methods := ms
  attributes := attrs
def plain (name : String) (sup : Option ClassId) : Class where
  name := name
  kind := .ordinary
  loader := none
  accessFlags := 33
  super := sup
  interfaces := #[]
  cf := none
  fields := #[]
  methods := #[]
  instanceTypes := #[]
  staticTypes := #[]
  resolved := #[]
  callSites := []
  init := .initialized
  statics := none
  mirror := none

def pool0 : Array CpInfo := pool [(5, u "<init>"), (0, u "()V"), (1, .class_ 10), (1, u "java/lang/Object")] 113

def k0c0 : Code := { maxStack := 0, maxLocals := 1, code := object_method_1_code, exceptionTable := #[], attributes := #[] }
def k0m0 : Method := { name := "<init>", desc := "()V", sig := { parameters := [], returnType := none }, accessFlags := 1, code := some k0c0 }
/-- java/lang/Object -/
def k0 : Class := { plain "java/lang/Object" none with
  accessFlags := 33
  interfaces := #[]
  cf := some (fileOf pool0 8 #[] #[{ accessFlags := 1, nameIndex := 5, descriptorIndex := 6, attributes := #[] }] 33 0 #[] #[])
  fields := #[]
  methods := #[k0m0]
  instanceTypes := #[]
  staticTypes := #[]
  resolved := Array.replicate 124 none
  mirror := some 2
  statics := none }

def pool1 : Array CpInfo := pool [(2, .class_ 4), (1, u "java/lang/Object"), (0, u "<init>"), (0, u "()V"), (0, .class_ 8), (0, u "java/lang/String"), (0, .methodref 7 10), (0, .nameAndType 5 11), (0, u "([C)V"), (0, .methodref 7 13), (0, .nameAndType 14 15), (0, u "valueOf"), (0, u "(C)Ljava/lang/String;"), (0, .methodref 17 18), (0, .class_ 19), (0, .nameAndType 20 21), (0, u "com/example/likeness/likeness/property/Elements"), (0, u "entryWriter"), (0, u "(Ljava/lang/String;)Lcom/example/likeness/likeness/property/PropertyWriter;"), (0, .methodref 23 24), (0, .class_ 25), (0, .nameAndType 26 27), (0, u "com/example/likeness/likeness/property/PropertyWriter"), (0, u "name"), (0, u "()Ljava/lang/String;"), (0, .methodref 7 29), (0, .nameAndType 30 31), (0, u "equals"), (0, u "(Ljava/lang/Object;)Z"), (0, .methodref 23 33), (0, .nameAndType 34 35), (0, u "type"), (0, u "()Ljava/lang/reflect/Type;"), (0, .methodref 23 37), (0, .nameAndType 38 39), (0, u "fillsHeld"), (0, u "()Z"), (0, .methodref 23 41), (0, .nameAndType 42 43), (0, u "member"), (0, u "()Ljava/lang/invoke/MethodHandle;"), (0, .methodref 23 45), (0, .nameAndType 46 43), (0, u "handle"), (0, .methodref 23 48), (0, .nameAndType 49 27), (0, u "toString"), (0, .methodref 51 52), (0, .class_ 53), (0, .nameAndType 54 55), (0, u "com/example/likeness/likeness/property/ElementsEntryWriterPinLaw"), (0, u "describes"), (0, u "(Ljava/lang/String;ICCC)Z"), (0, .methodref 7 57), (0, .nameAndType 58 59), (0, u "length"), (0, u "()I"), (0, .methodref 7 61), (0, .nameAndType 62 63), (0, u "charAt"), (0, u "(I)C"), (2, u "law"), (0, u "(II)Z")] 3

def k1m0 : Method := { name := "<init>", desc := "()V", sig := { parameters := [], returnType := none }, accessFlags := 2, code := none }
def k1c1 : Code := { maxStack := 6, maxLocals := 11, code := code, exceptionTable := #[], attributes := #[] }
def k1m1 : Method := { name := "law", desc := "(II)Z", sig := { parameters := [.int, .int], returnType := some .boolean }, accessFlags := 9, code := some k1c1 }
def k1c2 : Code := { maxStack := 3, maxLocals := 7, code := method_3_code, exceptionTable := #[], attributes := #[] }
def k1m2 : Method := { name := "describes", desc := "(Ljava/lang/String;ICCC)Z", sig := { parameters := [(.object "java/lang/String"), .int, .char, .char, .char], returnType := some .boolean }, accessFlags := 10, code := some k1c2 }
/-- com/example/likeness/likeness/property/ElementsEntryWriterPinLaw -/
def k1 : Class := { plain "com/example/likeness/likeness/property/ElementsEntryWriterPinLaw" (some 0) with
  accessFlags := 49
  interfaces := #[]
  cf := some (fileOf pool1 51 #[] #[{ accessFlags := 2, nameIndex := 5, descriptorIndex := 6, attributes := #[] }, { accessFlags := 9, nameIndex := 66, descriptorIndex := 67, attributes := #[] }, { accessFlags := 10, nameIndex := 54, descriptorIndex := 55, attributes := #[] }] 49 2 #[] #[])
  fields := #[]
  methods := #[k1m0, k1m1, k1m2]
  instanceTypes := #[]
  staticTypes := #[]
  resolved := Array.replicate 71 none
  statics := none }

def pool2 : Array CpInfo := pool [(1, .class_ 2), (0, u "java/io/Serializable"), (0, .class_ 4), (0, u "java/lang/Object")] 2

/-- java/io/Serializable -/
def k2 : Class := { plain "java/io/Serializable" (some 0) with
  accessFlags := 1537
  interfaces := #[]
  cf := some (fileOf pool2 1 #[] #[] 1537 3 #[] #[])
  fields := #[]
  methods := #[]
  instanceTypes := #[]
  staticTypes := #[]
  resolved := Array.replicate 7 none
  statics := none }

def pool3 : Array CpInfo := pool [(1, .class_ 2), (0, u "java/lang/Comparable"), (0, .class_ 4), (0, u "java/lang/Object")] 7

/-- java/lang/Comparable -/
def k3 : Class := { plain "java/lang/Comparable" (some 0) with
  accessFlags := 1537
  interfaces := #[]
  cf := some (fileOf pool3 1 #[] #[] 1537 3 #[] #[])
  fields := #[]
  methods := #[]
  instanceTypes := #[]
  staticTypes := #[]
  resolved := Array.replicate 12 none
  statics := none }

def pool4 : Array CpInfo := pool [(2, .class_ 4), (1, u "java/lang/CharSequence"), (42, .class_ 48), (0, u "java/lang/CharSequence$1CodePointIterator"), (10, .class_ 60), (0, u "java/lang/CharSequence$1CharIterator"), (5, .class_ 67), (0, u "java/lang/Object")] 63

/-- java/lang/CharSequence -/
def k4 : Class := { plain "java/lang/CharSequence" (some 0) with
  accessFlags := 1537
  interfaces := #[]
  cf := some (fileOf pool4 2 #[.nestMembers #[47, 59]] #[] 1537 66 #[] #[])
  fields := #[]
  methods := #[]
  instanceTypes := #[]
  staticTypes := #[]
  resolved := Array.replicate 131 none
  statics := none }

def pool5 : Array CpInfo := pool [(1, .class_ 2), (0, u "java/lang/constant/Constable"), (0, .class_ 4), (0, u "java/lang/Object")] 6

/-- java/lang/constant/Constable -/
def k5 : Class := { plain "java/lang/constant/Constable" (some 0) with
  accessFlags := 1537
  interfaces := #[]
  cf := some (fileOf pool5 1 #[] #[] 1537 3 #[] #[])
  fields := #[]
  methods := #[]
  instanceTypes := #[]
  staticTypes := #[]
  resolved := Array.replicate 11 none
  statics := none }

def pool6 : Array CpInfo := pool [(1, .class_ 2), (0, u "java/lang/constant/ConstantDesc"), (0, .class_ 4), (0, u "java/lang/Object")] 32

/-- java/lang/constant/ConstantDesc -/
def k6 : Class := { plain "java/lang/constant/ConstantDesc" (some 0) with
  accessFlags := 1537
  interfaces := #[]
  cf := some (fileOf pool6 1 #[] #[] 1537 3 #[] #[])
  fields := #[]
  methods := #[]
  instanceTypes := #[]
  staticTypes := #[]
  resolved := Array.replicate 37 none
  statics := none }

def pool7 : Array CpInfo := pool [(1, .methodref 2 3), (0, .class_ 4), (0, .nameAndType 5 6), (0, u "java/lang/Object"), (0, u "<init>"), (0, u "()V"), (0, .string 8), (0, u ""), (0, .fieldref 10 11), (0, .class_ 12), (0, .nameAndType 13 14), (0, u "java/lang/String"), (0, u "value"), (0, u "[B"), (0, .fieldref 10 16), (0, .nameAndType 17 18), (0, u "coder"), (0, u "B"), (2, u "hash"), (0, u "I"), (2, u "hashIsZero"), (0, u "Z"), (0, .methodref 10 28), (0, .nameAndType 5 29), (0, u "([CIILjava/lang/Void;)V"), (8, .fieldref 10 39), (0, .nameAndType 40 26), (0, u "COMPACT_STRINGS"), (1, .class_ 44), (1, u "java/lang/StringUTF16"), (0, u "compress"), (1, .methodref 42 48), (0, .nameAndType 49 50), (0, u "coderFromArrayLen"), (0, u "([BI)B"), (2, u "toBytes"), (0, .methodref 55 56), (0, .class_ 57), (0, .nameAndType 58 59), (0, u "java/util/Arrays"), (0, u "copyOfRange"), (0, u "([BII)[B"), (47, .class_ 109), (1, u "java/lang/StringLatin1"), (32, u "()Z"), (34, .methodref 42 178), (0, .nameAndType 45 179), (0, u "([CII)[B"), (13, .class_ 195), (1, u "java/lang/System"), (13, .methodref 10 210), (0, .nameAndType 5 211), (0, u "([BB)V"), (0, .methodref 193 213), (0, .nameAndType 214 215), (0, u "arraycopy"), (0, u "(Ljava/lang/Object;ILjava/lang/Object;II)V"), (118, u "()I"), (0, .methodref 10 336), (0, .nameAndType 17 337), (0, u "()B"), (2, u "()[B"), (22, u "([BI)C"), (5, u "(C)Z"), (21, u "(II)V"), (35, u "(I)C"), (61, .methodref 10 490), (0, .nameAndType 5 491), (0, u "(Ljava/lang/AbstractStringBuilder;Ljava/lang/Void;)V"), (0, .methodref 10 493), (0, .nameAndType 494 142), (0, u "isLatin1"), (0, .methodref 107 496), (0, .nameAndType 497 363), (0, u "charAt"), (3, u "checkIndex"), (4, .nameAndType 507 334), (0, u "length"), (24, u "getBytes"), (10, u "equals"), (5, .methodref 550 506), (0, .class_ 551), (0, u "java/lang/AbstractStringBuilder"), (0, .methodref 550 553), (0, .nameAndType 554 340), (0, u "getValue"), (18, u "(Ljava/lang/Object;)Z"), (1, .class_ 576), (0, u "java/lang/CharSequence"), (22, u "CASE_INSENSITIVE_ORDER"), (0, u "Ljava/util/Comparator;"), (181, u "valueOf"), (0, u "(C)Ljava/lang/String;"), (37, u "([BIB)V"), (188, u "([C)V"), (4, .methodref 107 1016), (0, .nameAndType 1017 369), (0, u "canEncode"), (0, .methodref 107 1019), (0, .nameAndType 53 1020), (0, u "(C)[B"), (26, .methodref 550 493), (5, .fieldref 1054 1055), (0, .class_ 1056), (0, .nameAndType 1057 1058), (0, u "jdk/internal/util/Preconditions"), (0, u "SIOOBE_FORMATTER"), (0, u "Ljava/util/function/BiFunction;"), (0, .methodref 1054 1060), (0, .nameAndType 501 1061), (0, u "(IILjava/util/function/BiFunction;)I"), (39, u "serialPersistentFields"), (0, u "[Ljava/io/ObjectStreamField;"), (0, .class_ 1104), (0, u "java/lang/String$CaseInsensitiveComparator"), (1, .class_ 1107), (0, u "java/io/Serializable"), (0, .class_ 1109), (0, u "java/lang/Comparable"), (0, .class_ 1111), (0, u "java/lang/constant/Constable"), (0, .class_ 1113), (0, u "java/lang/constant/ConstantDesc"), (2, u "serialVersionUID"), (0, u "J"), (3, u "REPL"), (0, u "C"), (2, u "LATIN1"), (1, u "UTF16"), (105, u "(Ljava/lang/StringBuilder;)V")] 217

def k7m0 : Method := { name := "<init>", desc := "()V", sig := { parameters := [], returnType := none }, accessFlags := 1, code := none }
def k7c1 : Code := { maxStack := 5, maxLocals := 2, code := jdk_42_method_3_code, exceptionTable := #[], attributes := #[] }
def k7m1 : Method := { name := "<init>", desc := "([C)V", sig := { parameters := [(.array .char)], returnType := none }, accessFlags := 1, code := some k7c1 }
def k7c2 : Code := { maxStack := 3, maxLocals := 2, code := jdk_42_method_53_code, exceptionTable := #[], attributes := #[] }
def k7m2 : Method := { name := "<init>", desc := "(Ljava/lang/StringBuilder;)V", sig := { parameters := [(.object "java/lang/StringBuilder")], returnType := none }, accessFlags := 1, code := some k7c2 }
def k7c3 : Code := { maxStack := 2, maxLocals := 1, code := jdk_42_method_54_code, exceptionTable := #[], attributes := #[] }
def k7m3 : Method := { name := "length", desc := "()I", sig := { parameters := [], returnType := some .int }, accessFlags := 1, code := some k7c3 }
def k7c4 : Code := { maxStack := 2, maxLocals := 2, code := jdk_42_method_56_code, exceptionTable := #[], attributes := #[] }
def k7m4 : Method := { name := "charAt", desc := "(I)C", sig := { parameters := [.int], returnType := some .char }, accessFlags := 1, code := some k7c4 }
def k7c5 : Code := { maxStack := 2, maxLocals := 3, code := jdk_42_method_66_code, exceptionTable := #[], attributes := #[] }
def k7m5 : Method := { name := "equals", desc := "(Ljava/lang/Object;)Z", sig := { parameters := [(.object "java/lang/Object")], returnType := some .boolean }, accessFlags := 1, code := some k7c5 }
def k7c6 : Code := { maxStack := 4, maxLocals := 1, code := jdk_42_method_139_code, exceptionTable := #[], attributes := #[] }
def k7m6 : Method := { name := "valueOf", desc := "(C)Ljava/lang/String;", sig := { parameters := [.char], returnType := some (.object "java/lang/String") }, accessFlags := 9, code := some k7c6 }
def k7c7 : Code := { maxStack := 5, maxLocals := 4, code := jdk_42_method_147_code, exceptionTable := #[], attributes := #[] }
def k7m7 : Method := { name := "getBytes", desc := "([BIB)V", sig := { parameters := [(.array .byte), .int, .byte], returnType := none }, accessFlags := 0, code := some k7c7 }
def k7c8 : Code := { maxStack := 4, maxLocals := 6, code := jdk_42_method_149_code, exceptionTable := #[], attributes := #[] }
def k7m8 : Method := { name := "<init>", desc := "([CIILjava/lang/Void;)V", sig := { parameters := [(.array .char), .int, .int, (.object "java/lang/Void")], returnType := none }, accessFlags := 2, code := some k7c8 }
def k7c9 : Code := { maxStack := 5, maxLocals := 5, code := jdk_42_method_150_code, exceptionTable := #[], attributes := #[] }
def k7m9 : Method := { name := "<init>", desc := "(Ljava/lang/AbstractStringBuilder;Ljava/lang/Void;)V", sig := { parameters := [(.object "java/lang/AbstractStringBuilder"), (.object "java/lang/Void")], returnType := none }, accessFlags := 0, code := some k7c9 }
def k7c10 : Code := { maxStack := 2, maxLocals := 3, code := jdk_42_method_151_code, exceptionTable := #[], attributes := #[] }
def k7m10 : Method := { name := "<init>", desc := "([BB)V", sig := { parameters := [(.array .byte), .byte], returnType := none }, accessFlags := 0, code := some k7c10 }
def k7c11 : Code := { maxStack := 1, maxLocals := 1, code := jdk_42_method_152_code, exceptionTable := #[], attributes := #[] }
def k7m11 : Method := { name := "coder", desc := "()B", sig := { parameters := [], returnType := some .byte }, accessFlags := 0, code := some k7c11 }
def k7c12 : Code := { maxStack := 1, maxLocals := 1, code := jdk_42_method_154_code, exceptionTable := #[], attributes := #[] }
def k7m12 : Method := { name := "isLatin1", desc := "()Z", sig := { parameters := [], returnType := some .boolean }, accessFlags := 0, code := some k7c12 }
def k7c13 : Code := { maxStack := 3, maxLocals := 2, code := jdk_42_method_155_code, exceptionTable := #[], attributes := #[] }
def k7m13 : Method := { name := "checkIndex", desc := "(II)V", sig := { parameters := [.int, .int], returnType := none }, accessFlags := 8, code := some k7c13 }
/-- java/lang/String -/
def k7 : Class := { plain "java/lang/String" (some 0) with
  accessFlags := 49
  interfaces := #[2, 3, 4, 5, 6]
  cf := some (fileOf pool7 10 #[.nestMembers #[1103]] #[{ accessFlags := 1, nameIndex := 5, descriptorIndex := 6, attributes := #[] }, { accessFlags := 1, nameIndex := 5, descriptorIndex := 1010, attributes := #[] }, { accessFlags := 1, nameIndex := 5, descriptorIndex := 1233, attributes := #[] }, { accessFlags := 1, nameIndex := 507, descriptorIndex := 334, attributes := #[] }, { accessFlags := 1, nameIndex := 497, descriptorIndex := 427, attributes := #[] }, { accessFlags := 1, nameIndex := 543, descriptorIndex := 573, attributes := #[] }, { accessFlags := 9, nameIndex := 782, descriptorIndex := 783, attributes := #[] }, { accessFlags := 0, nameIndex := 532, descriptorIndex := 821, attributes := #[] }, { accessFlags := 2, nameIndex := 5, descriptorIndex := 29, attributes := #[] }, { accessFlags := 0, nameIndex := 5, descriptorIndex := 491, attributes := #[] }, { accessFlags := 0, nameIndex := 5, descriptorIndex := 211, attributes := #[] }, { accessFlags := 0, nameIndex := 17, descriptorIndex := 337, attributes := #[] }, { accessFlags := 0, nameIndex := 494, descriptorIndex := 142, attributes := #[] }, { accessFlags := 8, nameIndex := 501, descriptorIndex := 391, attributes := #[] }] 49 2 #[1106, 1108, 575, 1110, 1112] #[{ accessFlags := 18, nameIndex := 13, descriptorIndex := 14, attributes := #[] }, { accessFlags := 18, nameIndex := 17, descriptorIndex := 18, attributes := #[] }, { accessFlags := 2, nameIndex := 21, descriptorIndex := 22, attributes := #[] }, { accessFlags := 2, nameIndex := 25, descriptorIndex := 26, attributes := #[] }, { accessFlags := 26, nameIndex := 1116, descriptorIndex := 1117, attributes := #[] }, { accessFlags := 24, nameIndex := 40, descriptorIndex := 26, attributes := #[] }, { accessFlags := 26, nameIndex := 1101, descriptorIndex := 1102, attributes := #[] }, { accessFlags := 26, nameIndex := 1121, descriptorIndex := 1122, attributes := #[] }, { accessFlags := 25, nameIndex := 599, descriptorIndex := 600, attributes := #[] }, { accessFlags := 24, nameIndex := 1125, descriptorIndex := 18, attributes := #[] }, { accessFlags := 24, nameIndex := 1127, descriptorIndex := 18, attributes := #[] }])
  fields := #[{ name := "value", type := (.array .byte), accessFlags := 18, slot := 0, constantValue := 0 }, { name := "coder", type := .byte, accessFlags := 18, slot := 1, constantValue := 0 }, { name := "hash", type := .int, accessFlags := 2, slot := 2, constantValue := 0 }, { name := "hashIsZero", type := .boolean, accessFlags := 2, slot := 3, constantValue := 0 }, { name := "serialVersionUID", type := .long, accessFlags := 26, slot := 0, constantValue := 0 }, { name := "COMPACT_STRINGS", type := .boolean, accessFlags := 24, slot := 1, constantValue := 0 }, { name := "serialPersistentFields", type := (.array (.object "java/io/ObjectStreamField")), accessFlags := 26, slot := 2, constantValue := 0 }, { name := "REPL", type := .char, accessFlags := 26, slot := 3, constantValue := 0 }, { name := "CASE_INSENSITIVE_ORDER", type := (.object "java/util/Comparator"), accessFlags := 25, slot := 4, constantValue := 0 }, { name := "LATIN1", type := .byte, accessFlags := 24, slot := 5, constantValue := 0 }, { name := "UTF16", type := .byte, accessFlags := 24, slot := 6, constantValue := 0 }]
  methods := #[k7m0, k7m1, k7m2, k7m3, k7m4, k7m5, k7m6, k7m7, k7m8, k7m9, k7m10, k7m11, k7m12, k7m13]
  instanceTypes := #[(.array .byte), .byte, .int, .boolean]
  staticTypes := #[.long, .boolean, (.array (.object "java/io/ObjectStreamField")), .char, (.object "java/util/Comparator"), .byte, .byte]
  resolved := Array.replicate 1451 none
  statics := some 0 }

def pool8 : Array CpInfo := pool [(6, .class_ 8), (1, u "java/lang/Object"), (0, u "<init>"), (0, u "()V"), (1, .class_ 14), (1, u "java/lang/StringUTF16"), (31, u "$assertionsDisabled"), (0, u "Z"), (13, u "HI_BYTE_SHIFT"), (0, u "I"), (2, u "LO_BYTE_SHIFT"), (49, .methodref 12 116), (0, .nameAndType 117 118), (0, u "compress"), (0, u "([CI[BII)I"), (3, u "([CII)[B"), (138, u "coderFromArrayLen"), (0, u "([BI)B"), (106, .class_ 371), (1, u "java/lang/StringUTF16$LinesSpliterator"), (58, u "MAX_LENGTH"), (196, .class_ 628), (0, u "java/lang/StringUTF16$CodePointsSpliterator"), (0, .class_ 630), (0, u "java/lang/StringUTF16$CharsSpliterator")] 4

def k8m0 : Method := { name := "<init>", desc := "()V", sig := { parameters := [], returnType := none }, accessFlags := 0, code := none }
def k8c1 : Code := { maxStack := 2, maxLocals := 2, code := jdk_52_method_15_code, exceptionTable := #[], attributes := #[] }
def k8m1 : Method := { name := "coderFromArrayLen", desc := "([BI)B", sig := { parameters := [(.array .byte), .int], returnType := some .byte }, accessFlags := 8, code := some k8c1 }
def k8c2 : Code := { maxStack := 5, maxLocals := 6, code := jdk_52_method_16_code, exceptionTable := #[], attributes := #[] }
def k8m2 : Method := { name := "compress", desc := "([CII)[B", sig := { parameters := [(.array .char), .int, .int], returnType := some (.array .byte) }, accessFlags := 9, code := some k8c2 }
def k8c3 : Code := { maxStack := 3, maxLocals := 7, code := jdk_52_method_21_code, exceptionTable := #[], attributes := #[] }
def k8m3 : Method := { name := "compress", desc := "([CI[BII)I", sig := { parameters := [(.array .char), .int, (.array .byte), .int, .int], returnType := some .int }, accessFlags := 9, code := some k8c3 }
/-- java/lang/StringUTF16 -/
def k8 : Class := { plain "java/lang/StringUTF16" (some 0) with
  accessFlags := 48
  interfaces := #[]
  cf := some (fileOf pool8 12 #[.nestMembers #[627, 629, 369]] #[{ accessFlags := 0, nameIndex := 9, descriptorIndex := 10, attributes := #[] }, { accessFlags := 8, nameIndex := 261, descriptorIndex := 262, attributes := #[] }, { accessFlags := 9, nameIndex := 117, descriptorIndex := 122, attributes := #[] }, { accessFlags := 9, nameIndex := 117, descriptorIndex := 118, attributes := #[] }] 48 6 #[] #[{ accessFlags := 26, nameIndex := 61, descriptorIndex := 62, attributes := #[] }, { accessFlags := 26, nameIndex := 65, descriptorIndex := 62, attributes := #[] }, { accessFlags := 24, nameIndex := 430, descriptorIndex := 62, attributes := #[] }, { accessFlags := 4120, nameIndex := 46, descriptorIndex := 47, attributes := #[] }])
  fields := #[{ name := "HI_BYTE_SHIFT", type := .int, accessFlags := 26, slot := 0, constantValue := 0 }, { name := "LO_BYTE_SHIFT", type := .int, accessFlags := 26, slot := 1, constantValue := 0 }, { name := "MAX_LENGTH", type := .int, accessFlags := 24, slot := 2, constantValue := 0 }, { name := "$assertionsDisabled", type := .boolean, accessFlags := 4120, slot := 3, constantValue := 0 }]
  methods := #[k8m0, k8m1, k8m2, k8m3]
  instanceTypes := #[]
  staticTypes := #[.int, .int, .int, .boolean]
  resolved := Array.replicate 635 none
  statics := none }

def pool9 : Array CpInfo := pool [(2, .class_ 4), (0, .nameAndType 5 6), (0, u "java/lang/Object"), (0, u "<init>"), (0, u "()V"), (15, .class_ 24), (1, u "com/example/likeness/likeness/property/Elements"), (15, u "()Ljava/lang/String;"), (13, .class_ 55), (0, u "java/lang/StringBuilder"), (0, .methodref 54 3), (2, .methodref 54 60), (0, .nameAndType 61 62), (0, u "append"), (0, u "(Ljava/lang/String;)Ljava/lang/StringBuilder;"), (3, .methodref 54 67), (0, .nameAndType 68 40), (0, u "toString"), (36, .class_ 106), (0, u "com/example/likeness/likeness/property/PropertyWriter"), (0, .string 108), (0, u "the entry \""), (0, .string 110), (0, u "\""), (0, .invokeDynamic 4 112), (0, .nameAndType 113 114), (0, u "write"), (0, u "(Ljava/lang/String;)Lcom/example/likeness/likeness/property/PropertyWriter$Access;"), (0, .methodref 105 116), (0, .nameAndType 5 117), (0, u "(Ljava/lang/String;Ljava/lang/reflect/Type;Ljava/lang/String;Lcom/example/likeness/likeness/property/PropertyWriter$Access;)V"), (123, u "entryWriter"), (0, u "(Ljava/lang/String;)Lcom/example/likeness/likeness/property/PropertyWriter;"), (1, u "(Ljava/lang/Object;Ljava/lang/Object;)V"), (5, u "lambda$entryWriter$4"), (0, u "(Ljava/lang/String;Ljava/lang/Object;Ljava/lang/Object;)V"), (24, .methodType 244), (0, .methodHandle 6 278), (0, .methodref 22 279), (0, .nameAndType 250 251), (0, .methodHandle 6 281), (0, .methodref 282 283), (0, .class_ 284), (0, .nameAndType 285 286), (0, u "java/lang/invoke/LambdaMetafactory"), (0, u "metafactory"), (0, u "(Ljava/lang/invoke/MethodHandles$Lookup;Ljava/lang/String;Ljava/lang/invoke/MethodType;Ljava/lang/invoke/MethodType;Ljava/lang/invoke/MethodHandle;Ljava/lang/invoke/MethodType;)Ljava/lang/invoke/CallSite;")] 11

def k9m0 : Method := { name := "<init>", desc := "()V", sig := { parameters := [], returnType := none }, accessFlags := 2, code := none }
def k9c1 : Code := { maxStack := 6, maxLocals := 1, code := prog_46_method_7_code, exceptionTable := #[], attributes := #[] }
def k9m1 : Method := { name := "entryWriter", desc := "(Ljava/lang/String;)Lcom/example/likeness/likeness/property/PropertyWriter;", sig := { parameters := [(.object "java/lang/String")], returnType := some (.object "com/example/likeness/likeness/property/PropertyWriter") }, accessFlags := 9, code := some k9c1 }
def k9c2 : Code := { maxStack := 3, maxLocals := 3, code := ⟨#[0x2b, 0x2a, 0x2c, 0xb8, 0x00, 0xdd, 0xb1]⟩, exceptionTable := #[], attributes := #[] }
def k9m2 : Method := { name := "lambda$entryWriter$4", desc := "(Ljava/lang/String;Ljava/lang/Object;Ljava/lang/Object;)V", sig := { parameters := [(.object "java/lang/String"), (.object "java/lang/Object"), (.object "java/lang/Object")], returnType := none }, accessFlags := 4106, code := some k9c2 }
/-- com/example/likeness/likeness/property/Elements -/
def k9 : Class := { plain "com/example/likeness/likeness/property/Elements" (some 0) with
  accessFlags := 49
  interfaces := #[]
  cf := some (fileOf pool9 22 #[.bootstrapMethods #[⟨0, #[]⟩, ⟨0, #[]⟩, ⟨0, #[]⟩, ⟨0, #[]⟩, ⟨280, #[276, 277, 276]⟩]] #[{ accessFlags := 2, nameIndex := 5, descriptorIndex := 6, attributes := #[] }, { accessFlags := 9, nameIndex := 241, descriptorIndex := 242, attributes := #[] }, { accessFlags := 4106, nameIndex := 250, descriptorIndex := 251, attributes := #[] }] 49 2 #[] #[])
  fields := #[]
  methods := #[k9m0, k9m1, k9m2]
  instanceTypes := #[]
  staticTypes := #[]
  resolved := Array.replicate 298 none
  callSites := [(1, 32, .makes 29)]
  statics := none }

def pool10 : Array CpInfo := pool [(1, .methodref 2 3), (0, .class_ 4), (0, .nameAndType 5 6), (0, u "com/example/likeness/likeness/property/PropertyWriter"), (0, u "<init>"), (0, u "(Ljava/lang/String;Ljava/lang/reflect/Type;Ljava/lang/String;Lcom/example/likeness/likeness/property/PropertyWriter$Access;Z)V"), (0, .methodref 2 8), (0, .nameAndType 5 9), (0, u "(Ljava/lang/String;Ljava/lang/reflect/Type;Ljava/lang/String;Lcom/example/likeness/likeness/property/PropertyWriter$Access;ZLjava/lang/invoke/MethodHandle;Ljava/lang/invoke/MethodHandle;)V"), (0, .methodref 11 12), (0, .class_ 13), (0, .nameAndType 5 14), (0, u "java/lang/Object"), (0, u "()V"), (0, .fieldref 2 16), (0, .nameAndType 17 18), (0, u "name"), (0, u "Ljava/lang/String;"), (0, .fieldref 2 20), (0, .nameAndType 21 22), (0, u "type"), (0, u "Ljava/lang/reflect/Type;"), (0, .fieldref 2 24), (0, .nameAndType 25 18), (0, u "accessor"), (0, .fieldref 2 27), (0, .nameAndType 28 29), (0, u "access"), (0, u "Lcom/example/likeness/likeness/property/PropertyWriter$Access;"), (0, .fieldref 2 31), (0, .nameAndType 32 33), (0, u "fillsHeld"), (0, u "Z"), (0, .fieldref 2 35), (0, .nameAndType 36 37), (0, u "member"), (0, u "Ljava/lang/invoke/MethodHandle;"), (0, .fieldref 2 39), (0, .nameAndType 40 37), (0, u "handle"), (5, u "()Ljava/lang/invoke/MethodHandle;"), (14, u "(Ljava/lang/String;Ljava/lang/reflect/Type;Ljava/lang/String;Lcom/example/likeness/likeness/property/PropertyWriter$Access;)V"), (7, .class_ 71), (1, u "com/example/likeness/likeness/property/PropertyWriter$Access"), (15, u "()Ljava/lang/String;"), (0, u "()Ljava/lang/reflect/Type;"), (0, u "()Z"), (3, u "toString")] 28

def k10c0 : Code := { maxStack := 6, maxLocals := 5, code := prog_52_method_1_code, exceptionTable := #[], attributes := #[] }
def k10m0 : Method := { name := "<init>", desc := "(Ljava/lang/String;Ljava/lang/reflect/Type;Ljava/lang/String;Lcom/example/likeness/likeness/property/PropertyWriter$Access;)V", sig := { parameters := [(.object "java/lang/String"), (.object "java/lang/reflect/Type"), (.object "java/lang/String"), (.object "com/example/likeness/likeness/property/PropertyWriter$Access")], returnType := none }, accessFlags := 0, code := some k10c0 }
def k10c1 : Code := { maxStack := 8, maxLocals := 6, code := prog_52_method_2_code, exceptionTable := #[], attributes := #[] }
def k10m1 : Method := { name := "<init>", desc := "(Ljava/lang/String;Ljava/lang/reflect/Type;Ljava/lang/String;Lcom/example/likeness/likeness/property/PropertyWriter$Access;Z)V", sig := { parameters := [(.object "java/lang/String"), (.object "java/lang/reflect/Type"), (.object "java/lang/String"), (.object "com/example/likeness/likeness/property/PropertyWriter$Access"), .boolean], returnType := none }, accessFlags := 0, code := some k10c1 }
def k10c2 : Code := { maxStack := 2, maxLocals := 8, code := prog_52_method_3_code, exceptionTable := #[], attributes := #[] }
def k10m2 : Method := { name := "<init>", desc := "(Ljava/lang/String;Ljava/lang/reflect/Type;Ljava/lang/String;Lcom/example/likeness/likeness/property/PropertyWriter$Access;ZLjava/lang/invoke/MethodHandle;Ljava/lang/invoke/MethodHandle;)V", sig := { parameters := [(.object "java/lang/String"), (.object "java/lang/reflect/Type"), (.object "java/lang/String"), (.object "com/example/likeness/likeness/property/PropertyWriter$Access"), .boolean, (.object "java/lang/invoke/MethodHandle"), (.object "java/lang/invoke/MethodHandle")], returnType := none }, accessFlags := 2, code := some k10c2 }
def k10c3 : Code := { maxStack := 1, maxLocals := 1, code := prog_52_method_5_code, exceptionTable := #[], attributes := #[] }
def k10m3 : Method := { name := "name", desc := "()Ljava/lang/String;", sig := { parameters := [], returnType := some (.object "java/lang/String") }, accessFlags := 1, code := some k10c3 }
def k10c4 : Code := { maxStack := 1, maxLocals := 1, code := prog_52_method_6_code, exceptionTable := #[], attributes := #[] }
def k10m4 : Method := { name := "type", desc := "()Ljava/lang/reflect/Type;", sig := { parameters := [], returnType := some (.object "java/lang/reflect/Type") }, accessFlags := 1, code := some k10c4 }
def k10c5 : Code := { maxStack := 1, maxLocals := 1, code := prog_52_method_7_code, exceptionTable := #[], attributes := #[] }
def k10m5 : Method := { name := "fillsHeld", desc := "()Z", sig := { parameters := [], returnType := some .boolean }, accessFlags := 1, code := some k10c5 }
def k10c6 : Code := { maxStack := 1, maxLocals := 1, code := prog_52_method_9_code, exceptionTable := #[], attributes := #[] }
def k10m6 : Method := { name := "member", desc := "()Ljava/lang/invoke/MethodHandle;", sig := { parameters := [], returnType := some (.object "java/lang/invoke/MethodHandle") }, accessFlags := 1, code := some k10c6 }
def k10c7 : Code := { maxStack := 1, maxLocals := 1, code := prog_52_method_10_code, exceptionTable := #[], attributes := #[] }
def k10m7 : Method := { name := "handle", desc := "()Ljava/lang/invoke/MethodHandle;", sig := { parameters := [], returnType := some (.object "java/lang/invoke/MethodHandle") }, accessFlags := 1, code := some k10c7 }
def k10c8 : Code := { maxStack := 1, maxLocals := 1, code := prog_52_method_11_code, exceptionTable := #[], attributes := #[] }
def k10m8 : Method := { name := "toString", desc := "()Ljava/lang/String;", sig := { parameters := [], returnType := some (.object "java/lang/String") }, accessFlags := 1, code := some k10c8 }
/-- com/example/likeness/likeness/property/PropertyWriter -/
def k10 : Class := { plain "com/example/likeness/likeness/property/PropertyWriter" (some 0) with
  accessFlags := 49
  interfaces := #[]
  cf := some (fileOf pool10 2 #[.nestMembers #[69]] #[{ accessFlags := 0, nameIndex := 5, descriptorIndex := 61, attributes := #[] }, { accessFlags := 0, nameIndex := 5, descriptorIndex := 6, attributes := #[] }, { accessFlags := 2, nameIndex := 5, descriptorIndex := 9, attributes := #[] }, { accessFlags := 1, nameIndex := 17, descriptorIndex := 87, attributes := #[] }, { accessFlags := 1, nameIndex := 21, descriptorIndex := 88, attributes := #[] }, { accessFlags := 1, nameIndex := 32, descriptorIndex := 89, attributes := #[] }, { accessFlags := 1, nameIndex := 36, descriptorIndex := 46, attributes := #[] }, { accessFlags := 1, nameIndex := 40, descriptorIndex := 46, attributes := #[] }, { accessFlags := 1, nameIndex := 93, descriptorIndex := 87, attributes := #[] }] 49 11 #[] #[{ accessFlags := 18, nameIndex := 17, descriptorIndex := 18, attributes := #[] }, { accessFlags := 18, nameIndex := 21, descriptorIndex := 22, attributes := #[] }, { accessFlags := 18, nameIndex := 25, descriptorIndex := 18, attributes := #[] }, { accessFlags := 18, nameIndex := 28, descriptorIndex := 29, attributes := #[] }, { accessFlags := 18, nameIndex := 32, descriptorIndex := 33, attributes := #[] }, { accessFlags := 18, nameIndex := 36, descriptorIndex := 37, attributes := #[] }, { accessFlags := 18, nameIndex := 40, descriptorIndex := 37, attributes := #[] }])
  fields := #[{ name := "name", type := (.object "java/lang/String"), accessFlags := 18, slot := 0, constantValue := 0 }, { name := "type", type := (.object "java/lang/reflect/Type"), accessFlags := 18, slot := 1, constantValue := 0 }, { name := "accessor", type := (.object "java/lang/String"), accessFlags := 18, slot := 2, constantValue := 0 }, { name := "access", type := (.object "com/example/likeness/likeness/property/PropertyWriter$Access"), accessFlags := 18, slot := 3, constantValue := 0 }, { name := "fillsHeld", type := .boolean, accessFlags := 18, slot := 4, constantValue := 0 }, { name := "member", type := (.object "java/lang/invoke/MethodHandle"), accessFlags := 18, slot := 5, constantValue := 0 }, { name := "handle", type := (.object "java/lang/invoke/MethodHandle"), accessFlags := 18, slot := 6, constantValue := 0 }]
  methods := #[k10m0, k10m1, k10m2, k10m3, k10m4, k10m5, k10m6, k10m7, k10m8]
  instanceTypes := #[(.object "java/lang/String"), (.object "java/lang/reflect/Type"), (.object "java/lang/String"), (.object "com/example/likeness/likeness/property/PropertyWriter$Access"), .boolean, (.object "java/lang/invoke/MethodHandle"), (.object "java/lang/invoke/MethodHandle")]
  staticTypes := #[]
  resolved := Array.replicate 122 none
  statics := none }

def pool11 : Array CpInfo := pool [(1, .class_ 2), (0, u "java/lang/Appendable"), (0, .class_ 4), (0, u "java/lang/Object")] 9

/-- java/lang/Appendable -/
def k11 : Class := { plain "java/lang/Appendable" (some 0) with
  accessFlags := 1537
  interfaces := #[]
  cf := some (fileOf pool11 1 #[] #[] 1537 3 #[] #[])
  fields := #[]
  methods := #[]
  instanceTypes := #[]
  staticTypes := #[]
  resolved := Array.replicate 14 none
  statics := none }

def pool12 : Array CpInfo := pool [(1, .class_ 2), (0, u "java/lang/String"), (0, .methodref 4 5), (0, .class_ 6), (0, .nameAndType 7 8), (0, u "java/lang/Object"), (0, u "<init>"), (0, u "()V"), (1, .class_ 12), (1, u "java/lang/AbstractStringBuilder"), (0, u "EMPTYVALUE"), (0, u "[B"), (0, .fieldref 10 16), (0, .nameAndType 17 14), (0, u "value"), (0, .fieldref 1 19), (0, .nameAndType 20 21), (0, u "COMPACT_STRINGS"), (0, u "Z"), (0, .fieldref 10 23), (0, .nameAndType 24 25), (0, u "coder"), (0, u "B"), (6, .methodref 1 33), (0, .nameAndType 34 35), (0, u "length"), (0, u "()I"), (4, .methodref 1 41), (0, .nameAndType 24 42), (0, u "()B"), (2, u "append"), (0, u "(Ljava/lang/String;)Ljava/lang/AbstractStringBuilder;"), (1, .class_ 49), (0, u "java/lang/CharSequence"), (19, u "(Ljava/lang/String;)V"), (5, u "maybeLatin1"), (3, .fieldref 10 80), (0, .nameAndType 81 82), (0, u "count"), (0, u "I"), (2, u "isLatin1"), (0, u "()Z"), (13, .methodref 10 101), (0, .nameAndType 102 103), (0, u "ensureCapacityInternal"), (0, u "(I)V"), (104, .methodref 10 209), (0, .nameAndType 210 211), (0, u "putStringAt"), (0, u "(ILjava/lang/String;)V"), (5, u "inflateIfNeededFor"), (2, .nameAndType 221 222), (0, u "getBytes"), (0, u "([BIB)V"), (174, .methodref 10 398), (0, .nameAndType 217 69), (0, .methodref 1 220), (3, u "()[B"), (40, .class_ 445), (0, u "java/lang/Appendable"), (106, u "getValue")] 56

def k12m0 : Method := { name := "<init>", desc := "()V", sig := { parameters := [], returnType := none }, accessFlags := 0, code := none }
def k12c1 : Code := { maxStack := 2, maxLocals := 2, code := jdk_68_method_2_code, exceptionTable := #[], attributes := #[] }
def k12m1 : Method := { name := "<init>", desc := "(I)V", sig := { parameters := [.int], returnType := none }, accessFlags := 0, code := some k12c1 }
def k12c2 : Code := { maxStack := 1, maxLocals := 1, code := jdk_68_method_6_code, exceptionTable := #[], attributes := #[] }
def k12m2 : Method := { name := "length", desc := "()I", sig := { parameters := [], returnType := some .int }, accessFlags := 1, code := some k12c2 }
def k12c3 : Code := { maxStack := 4, maxLocals := 3, code := jdk_68_method_9_code, exceptionTable := #[], attributes := #[] }
def k12m3 : Method := { name := "ensureCapacityInternal", desc := "(I)V", sig := { parameters := [.int], returnType := none }, accessFlags := 2, code := some k12c3 }
def k12c4 : Code := { maxStack := 3, maxLocals := 3, code := jdk_68_method_22_code, exceptionTable := #[], attributes := #[] }
def k12m4 : Method := { name := "append", desc := "(Ljava/lang/String;)Ljava/lang/AbstractStringBuilder;", sig := { parameters := [(.object "java/lang/String")], returnType := some (.object "java/lang/AbstractStringBuilder") }, accessFlags := 1, code := some k12c4 }
def k12c5 : Code := { maxStack := 1, maxLocals := 1, code := jdk_68_method_64_code, exceptionTable := #[], attributes := #[] }
def k12m5 : Method := { name := "getValue", desc := "()[B", sig := { parameters := [], returnType := some (.array .byte) }, accessFlags := 16, code := some k12c5 }
def k12c6 : Code := { maxStack := 1, maxLocals := 1, code := jdk_68_method_68_code, exceptionTable := #[], attributes := #[] }
def k12m6 : Method := { name := "isLatin1", desc := "()Z", sig := { parameters := [], returnType := some .boolean }, accessFlags := 16, code := some k12c6 }
def k12c7 : Code := { maxStack := 2, maxLocals := 2, code := jdk_68_method_71_code, exceptionTable := #[], attributes := #[] }
def k12m7 : Method := { name := "inflateIfNeededFor", desc := "(Ljava/lang/String;)V", sig := { parameters := [(.object "java/lang/String")], returnType := none }, accessFlags := 2, code := some k12c7 }
def k12c8 : Code := { maxStack := 4, maxLocals := 3, code := jdk_68_method_73_code, exceptionTable := #[], attributes := #[] }
def k12m8 : Method := { name := "putStringAt", desc := "(ILjava/lang/String;)V", sig := { parameters := [.int, (.object "java/lang/String")], returnType := none }, accessFlags := 2, code := some k12c8 }
/-- java/lang/AbstractStringBuilder -/
def k12 : Class := { plain "java/lang/AbstractStringBuilder" (some 0) with
  accessFlags := 1056
  interfaces := #[11, 4]
  cf := some (fileOf pool12 10 #[] #[{ accessFlags := 0, nameIndex := 7, descriptorIndex := 8, attributes := #[] }, { accessFlags := 0, nameIndex := 7, descriptorIndex := 103, attributes := #[] }, { accessFlags := 1, nameIndex := 34, descriptorIndex := 35, attributes := #[] }, { accessFlags := 2, nameIndex := 102, descriptorIndex := 103, attributes := #[] }, { accessFlags := 1, nameIndex := 45, descriptorIndex := 46, attributes := #[] }, { accessFlags := 16, nameIndex := 552, descriptorIndex := 403, attributes := #[] }, { accessFlags := 16, nameIndex := 85, descriptorIndex := 86, attributes := #[] }, { accessFlags := 2, nameIndex := 217, descriptorIndex := 69, attributes := #[] }, { accessFlags := 2, nameIndex := 210, descriptorIndex := 211, attributes := #[] }] 1056 4 #[444, 48] #[{ accessFlags := 0, nameIndex := 17, descriptorIndex := 14, attributes := #[] }, { accessFlags := 0, nameIndex := 24, descriptorIndex := 25, attributes := #[] }, { accessFlags := 0, nameIndex := 75, descriptorIndex := 21, attributes := #[] }, { accessFlags := 0, nameIndex := 81, descriptorIndex := 82, attributes := #[] }, { accessFlags := 26, nameIndex := 13, descriptorIndex := 14, attributes := #[] }])
  fields := #[{ name := "value", type := (.array .byte), accessFlags := 0, slot := 0, constantValue := 0 }, { name := "coder", type := .byte, accessFlags := 0, slot := 1, constantValue := 0 }, { name := "maybeLatin1", type := .boolean, accessFlags := 0, slot := 2, constantValue := 0 }, { name := "count", type := .int, accessFlags := 0, slot := 3, constantValue := 0 }, { name := "EMPTYVALUE", type := (.array .byte), accessFlags := 26, slot := 0, constantValue := 0 }]
  methods := #[k12m0, k12m1, k12m2, k12m3, k12m4, k12m5, k12m6, k12m7, k12m8]
  instanceTypes := #[(.array .byte), .byte, .boolean, .int]
  staticTypes := #[(.array .byte)]
  resolved := Array.replicate 609 none
  statics := none }

def pool13 : Array CpInfo := pool [(1, .methodref 2 3), (0, .class_ 4), (0, .nameAndType 5 6), (0, u "java/lang/AbstractStringBuilder"), (0, u "<init>"), (0, u "(I)V"), (11, .class_ 20), (1, u "java/lang/String"), (3, .class_ 26), (1, u "java/lang/StringBuilder"), (0, u "append"), (0, u "(Ljava/lang/String;)Ljava/lang/StringBuilder;"), (0, .methodref 2 30), (0, .nameAndType 27 31), (0, u "(Ljava/lang/String;)Ljava/lang/AbstractStringBuilder;"), (105, .methodref 18 138), (0, .nameAndType 5 139), (0, u "(Ljava/lang/StringBuilder;)V"), (5, u "()V"), (10, u "()I"), (186, .methodref 2 344), (0, .nameAndType 345 156), (0, u "length"), (3, .class_ 350), (0, u "java/lang/Appendable"), (0, .class_ 352), (0, u "java/io/Serializable"), (0, .class_ 354), (0, u "java/lang/Comparable"), (0, .class_ 356), (0, u "java/lang/CharSequence"), (0, u "serialVersionUID"), (0, u "J"), (40, u "toString"), (0, u "()Ljava/lang/String;")] 21

def k13c0 : Code := { maxStack := 2, maxLocals := 1, code := jdk_67_method_1_code, exceptionTable := #[], attributes := #[] }
def k13m0 : Method := { name := "<init>", desc := "()V", sig := { parameters := [], returnType := none }, accessFlags := 1, code := some k13c0 }
def k13c1 : Code := { maxStack := 2, maxLocals := 2, code := jdk_67_method_7_code, exceptionTable := #[], attributes := #[] }
def k13m1 : Method := { name := "append", desc := "(Ljava/lang/String;)Ljava/lang/StringBuilder;", sig := { parameters := [(.object "java/lang/String")], returnType := some (.object "java/lang/StringBuilder") }, accessFlags := 1, code := some k13c1 }
def k13c2 : Code := { maxStack := 3, maxLocals := 1, code := jdk_67_method_42_code, exceptionTable := #[], attributes := #[] }
def k13m2 : Method := { name := "toString", desc := "()Ljava/lang/String;", sig := { parameters := [], returnType := some (.object "java/lang/String") }, accessFlags := 1, code := some k13c2 }
def k13c3 : Code := { maxStack := 1, maxLocals := 1, code := jdk_67_method_93_code, exceptionTable := #[], attributes := #[] }
def k13m3 : Method := { name := "length", desc := "()I", sig := { parameters := [], returnType := some .int }, accessFlags := 4161, code := some k13c3 }
/-- java/lang/StringBuilder -/
def k13 : Class := { plain "java/lang/StringBuilder" (some 12) with
  accessFlags := 49
  interfaces := #[11, 2, 3, 4]
  cf := some (fileOf pool13 24 #[] #[{ accessFlags := 1, nameIndex := 5, descriptorIndex := 145, attributes := #[] }, { accessFlags := 1, nameIndex := 27, descriptorIndex := 28, attributes := #[] }, { accessFlags := 1, nameIndex := 399, descriptorIndex := 400, attributes := #[] }, { accessFlags := 4161, nameIndex := 345, descriptorIndex := 156, attributes := #[] }] 49 2 #[349, 351, 353, 355] #[{ accessFlags := 24, nameIndex := 357, descriptorIndex := 358, attributes := #[] }])
  fields := #[{ name := "serialVersionUID", type := .long, accessFlags := 24, slot := 0, constantValue := 0 }]
  methods := #[k13m0, k13m1, k13m2, k13m3]
  instanceTypes := #[(.array .byte), .byte, .boolean, .int]
  staticTypes := #[.long]
  resolved := Array.replicate 422 none
  statics := none }

def pool14 : Array CpInfo := pool [(2, .class_ 4), (1, u "java/lang/Object"), (0, u "<init>"), (0, u "()V"), (1, .class_ 10), (1, u "java/lang/System"), (0, u "allowSecurityManager"), (0, u "I"), (16, u "cons"), (0, u "Ljava/io/Console;"), (77, .class_ 110), (1, u "java/lang/System$CallersHolder"), (43, u "initialErrStream"), (0, u "Ljava/io/PrintStream;"), (19, u "security"), (0, u "Ljava/lang/SecurityManager;"), (31, .class_ 209), (0, u "java/lang/System$1"), (7, u "props"), (0, u "Ljava/util/Properties;"), (2, u "lineSeparator"), (0, u "Ljava/lang/String;"), (96, .class_ 321), (1, u "java/lang/System$LoggerFinder"), (5, .class_ 328), (0, u "java/lang/System$Logger"), (67, u "err"), (2, u "out"), (91, u "notSupportedJnuEncoding"), (15, u "in"), (17, u "initialIn"), (0, u "Ljava/io/InputStream;"), (35, u "bootLayer"), (0, u "Ljava/lang/ModuleLayer;"), (99, .class_ 664), (0, u "java/lang/System$2"), (9, u "NEVER"), (2, u "MAYBE"), (49, u "arraycopy"), (0, u "(Ljava/lang/Object;ILjava/lang/Object;II)V"), (72, .class_ 802), (0, u "java/lang/System$Logger$Level")] 31

def k14m0 : Method := { name := "<init>", desc := "()V", sig := { parameters := [], returnType := none }, accessFlags := 2, code := none }
def k14m1 : Method := { name := "arraycopy", desc := "(Ljava/lang/Object;ILjava/lang/Object;II)V", sig := { parameters := [(.object "java/lang/Object"), .int, (.object "java/lang/Object"), .int, .int], returnType := none }, accessFlags := 265, code := none }
/-- java/lang/System -/
def k14 : Class := { plain "java/lang/System" (some 0) with
  accessFlags := 49
  interfaces := #[]
  cf := some (fileOf pool14 8 #[.nestMembers #[319, 327, 801, 108, 663, 208]] #[{ accessFlags := 2, nameIndex := 5, descriptorIndex := 6, attributes := #[] }, { accessFlags := 265, nameIndex := 727, descriptorIndex := 728, attributes := #[] }] 49 2 #[] #[{ accessFlags := 25, nameIndex := 507, descriptorIndex := 526, attributes := #[] }, { accessFlags := 25, nameIndex := 399, descriptorIndex := 155, attributes := #[] }, { accessFlags := 25, nameIndex := 396, descriptorIndex := 155, attributes := #[] }, { accessFlags := 10, nameIndex := 525, descriptorIndex := 526, attributes := #[] }, { accessFlags := 26, nameIndex := 674, descriptorIndex := 12, attributes := #[] }, { accessFlags := 26, nameIndex := 677, descriptorIndex := 12, attributes := #[] }, { accessFlags := 10, nameIndex := 11, descriptorIndex := 12, attributes := #[] }, { accessFlags := 74, nameIndex := 175, descriptorIndex := 176, attributes := #[] }, { accessFlags := 10, nameIndex := 491, descriptorIndex := 222, attributes := #[] }, { accessFlags := 74, nameIndex := 29, descriptorIndex := 30, attributes := #[] }, { accessFlags := 74, nameIndex := 154, descriptorIndex := 155, attributes := #[] }, { accessFlags := 10, nameIndex := 217, descriptorIndex := 218, attributes := #[] }, { accessFlags := 10, nameIndex := 221, descriptorIndex := 222, attributes := #[] }, { accessFlags := 8, nameIndex := 562, descriptorIndex := 563, attributes := #[] }])
  fields := #[{ name := "in", type := (.object "java/io/InputStream"), accessFlags := 25, slot := 0, constantValue := 0 }, { name := "out", type := (.object "java/io/PrintStream"), accessFlags := 25, slot := 1, constantValue := 0 }, { name := "err", type := (.object "java/io/PrintStream"), accessFlags := 25, slot := 2, constantValue := 0 }, { name := "initialIn", type := (.object "java/io/InputStream"), accessFlags := 10, slot := 3, constantValue := 0 }, { name := "NEVER", type := .int, accessFlags := 26, slot := 4, constantValue := 0 }, { name := "MAYBE", type := .int, accessFlags := 26, slot := 5, constantValue := 0 }, { name := "allowSecurityManager", type := .int, accessFlags := 10, slot := 6, constantValue := 0 }, { name := "security", type := (.object "java/lang/SecurityManager"), accessFlags := 74, slot := 7, constantValue := 0 }, { name := "notSupportedJnuEncoding", type := (.object "java/lang/String"), accessFlags := 10, slot := 8, constantValue := 0 }, { name := "cons", type := (.object "java/io/Console"), accessFlags := 74, slot := 9, constantValue := 0 }, { name := "initialErrStream", type := (.object "java/io/PrintStream"), accessFlags := 74, slot := 10, constantValue := 0 }, { name := "props", type := (.object "java/util/Properties"), accessFlags := 10, slot := 11, constantValue := 0 }, { name := "lineSeparator", type := (.object "java/lang/String"), accessFlags := 10, slot := 12, constantValue := 0 }, { name := "bootLayer", type := (.object "java/lang/ModuleLayer"), accessFlags := 8, slot := 13, constantValue := 0 }]
  methods := #[k14m0, k14m1]
  instanceTypes := #[]
  staticTypes := #[(.object "java/io/InputStream"), (.object "java/io/PrintStream"), (.object "java/io/PrintStream"), (.object "java/io/InputStream"), .int, .int, .int, (.object "java/lang/SecurityManager"), (.object "java/lang/String"), (.object "java/io/Console"), (.object "java/io/PrintStream"), (.object "java/util/Properties"), (.object "java/lang/String"), (.object "java/lang/ModuleLayer")]
  resolved := Array.replicate 834 none
  statics := none }

def pool15 : Array CpInfo := pool [(2, .class_ 4), (1, u "java/lang/Object"), (0, u "<init>"), (0, u "()V"), (7, .class_ 16), (1, u "java/util/Arrays"), (57, .class_ 76), (1, u "java/util/Arrays$NaturalOrder"), (36, .class_ 115), (1, u "java/util/Arrays$LegacyMergeSort"), (1, u "Z"), (21, u "copyOfRange"), (10, .methodref 151 152), (0, .class_ 153), (0, .nameAndType 154 155), (0, u "java/lang/System"), (0, u "arraycopy"), (0, u "(Ljava/lang/Object;ILjava/lang/Object;II)V"), (148, .methodref 305 306), (0, .class_ 307), (0, .nameAndType 308 309), (0, u "java/lang/Math"), (0, u "min"), (0, u "(II)I"), (29, .methodref 14 340), (0, .nameAndType 341 342), (0, u "copyOfRangeByte"), (0, u "([BII)[B"), (0, .methodref 14 344), (0, .nameAndType 345 346), (0, u "checkLength"), (0, u "(II)V"), (28, .class_ 376), (0, u "java/util/Arrays$ArrayList"), (68, u "$assertionsDisabled"), (269, u "MIN_ARRAY_SORT_GRAN"), (0, u "I"), (2, u "INSERTIONSORT_THRESHOLD"), (255, .class_ 976), (0, u "java/util/Arrays$ArrayItr")] 52

def k15m0 : Method := { name := "<init>", desc := "()V", sig := { parameters := [], returnType := none }, accessFlags := 2, code := none }
def k15c1 : Code := { maxStack := 4, maxLocals := 2, code := jdk_65_method_131_code, exceptionTable := #[], attributes := #[] }
def k15m1 : Method := { name := "checkLength", desc := "(II)V", sig := { parameters := [.int, .int], returnType := none }, accessFlags := 10, code := some k15c1 }
def k15c2 : Code := { maxStack := 3, maxLocals := 3, code := jdk_65_method_132_code, exceptionTable := #[], attributes := #[] }
def k15m2 : Method := { name := "copyOfRange", desc := "([BII)[B", sig := { parameters := [(.array .byte), .int, .int], returnType := some (.array .byte) }, accessFlags := 9, code := some k15c2 }
def k15c3 : Code := { maxStack := 6, maxLocals := 5, code := jdk_65_method_133_code, exceptionTable := #[], attributes := #[] }
def k15m3 : Method := { name := "copyOfRangeByte", desc := "([BII)[B", sig := { parameters := [(.array .byte), .int, .int], returnType := some (.array .byte) }, accessFlags := 10, code := some k15c3 }
/-- java/util/Arrays -/
def k15 : Class := { plain "java/util/Arrays" (some 0) with
  accessFlags := 49
  interfaces := #[]
  cf := some (fileOf pool15 14 #[.nestMembers #[975, 375, 113, 74]] #[{ accessFlags := 2, nameIndex := 5, descriptorIndex := 6, attributes := #[] }, { accessFlags := 10, nameIndex := 345, descriptorIndex := 346, attributes := #[] }, { accessFlags := 9, nameIndex := 139, descriptorIndex := 342, attributes := #[] }, { accessFlags := 10, nameIndex := 341, descriptorIndex := 342, attributes := #[] }] 49 2 #[] #[{ accessFlags := 26, nameIndex := 715, descriptorIndex := 716, attributes := #[] }, { accessFlags := 26, nameIndex := 719, descriptorIndex := 716, attributes := #[] }, { accessFlags := 4120, nameIndex := 445, descriptorIndex := 117, attributes := #[] }])
  fields := #[{ name := "MIN_ARRAY_SORT_GRAN", type := .int, accessFlags := 26, slot := 0, constantValue := 0 }, { name := "INSERTIONSORT_THRESHOLD", type := .int, accessFlags := 26, slot := 1, constantValue := 0 }, { name := "$assertionsDisabled", type := .boolean, accessFlags := 4120, slot := 2, constantValue := 0 }]
  methods := #[k15m0, k15m1, k15m2, k15m3]
  instanceTypes := #[]
  staticTypes := #[.int, .int, .boolean]
  resolved := Array.replicate 1029 none
  statics := none }

def pool16 : Array CpInfo := pool [(1, .class_ 2), (0, u "java/lang/Math"), (1, .class_ 6), (1, u "java/lang/Object"), (0, u "<init>"), (0, u "()V"), (89, .class_ 100), (1, u "java/lang/Math$RandomNumberGeneratorHolder"), (71, u "negativeZeroFloatBits"), (0, u "J"), (2, u "negativeZeroDoubleBits"), (24, u "min"), (43, u "$assertionsDisabled"), (0, u "Z"), (88, u "(II)I"), (2, u "twoToTheDoubleScaleDown"), (0, u "D"), (4, u "twoToTheDoubleScaleUp"), (9, u "E"), (3, u "PI"), (2, u "TAU"), (2, u "DEGREES_TO_RADIANS"), (0, u "RADIANS_TO_DEGREES")] 94

def k16m0 : Method := { name := "<init>", desc := "()V", sig := { parameters := [], returnType := none }, accessFlags := 2, code := none }
def k16c1 : Code := { maxStack := 2, maxLocals := 2, code := jdk_29_method_69_code, exceptionTable := #[], attributes := #[] }
def k16m1 : Method := { name := "min", desc := "(II)I", sig := { parameters := [.int, .int], returnType := some .int }, accessFlags := 9, code := some k16c1 }
/-- java/lang/Math -/
def k16 : Class := { plain "java/lang/Math" (some 0) with
  accessFlags := 49
  interfaces := #[]
  cf := some (fileOf pool16 1 #[.nestMembers #[98]] #[{ accessFlags := 2, nameIndex := 7, descriptorIndex := 8, attributes := #[] }, { accessFlags := 9, nameIndex := 201, descriptorIndex := 335, attributes := #[] }] 49 4 #[] #[{ accessFlags := 25, nameIndex := 354, descriptorIndex := 339, attributes := #[] }, { accessFlags := 25, nameIndex := 358, descriptorIndex := 339, attributes := #[] }, { accessFlags := 25, nameIndex := 361, descriptorIndex := 339, attributes := #[] }, { accessFlags := 26, nameIndex := 364, descriptorIndex := 339, attributes := #[] }, { accessFlags := 26, nameIndex := 365, descriptorIndex := 339, attributes := #[] }, { accessFlags := 26, nameIndex := 172, descriptorIndex := 173, attributes := #[] }, { accessFlags := 26, nameIndex := 176, descriptorIndex := 173, attributes := #[] }, { accessFlags := 8, nameIndex := 344, descriptorIndex := 339, attributes := #[] }, { accessFlags := 8, nameIndex := 338, descriptorIndex := 339, attributes := #[] }, { accessFlags := 4120, nameIndex := 245, descriptorIndex := 246, attributes := #[] }])
  fields := #[{ name := "E", type := .double, accessFlags := 25, slot := 0, constantValue := 0 }, { name := "PI", type := .double, accessFlags := 25, slot := 1, constantValue := 0 }, { name := "TAU", type := .double, accessFlags := 25, slot := 2, constantValue := 0 }, { name := "DEGREES_TO_RADIANS", type := .double, accessFlags := 26, slot := 3, constantValue := 0 }, { name := "RADIANS_TO_DEGREES", type := .double, accessFlags := 26, slot := 4, constantValue := 0 }, { name := "negativeZeroFloatBits", type := .long, accessFlags := 26, slot := 5, constantValue := 0 }, { name := "negativeZeroDoubleBits", type := .long, accessFlags := 26, slot := 6, constantValue := 0 }, { name := "twoToTheDoubleScaleUp", type := .double, accessFlags := 8, slot := 7, constantValue := 0 }, { name := "twoToTheDoubleScaleDown", type := .double, accessFlags := 8, slot := 8, constantValue := 0 }, { name := "$assertionsDisabled", type := .boolean, accessFlags := 4120, slot := 9, constantValue := 0 }]
  methods := #[k16m0, k16m1]
  instanceTypes := #[]
  staticTypes := #[.double, .double, .double, .double, .double, .long, .long, .double, .double, .boolean]
  resolved := Array.replicate 460 none
  statics := none }

def pool17 : Array CpInfo := pool [(1, .class_ 2), (0, u "com/example/likeness/likeness/property/PropertyWriter$Access"), (0, .class_ 4), (0, u "java/lang/Object"), (0, u "write"), (0, u "(Ljava/lang/Object;Ljava/lang/Object;)V"), (8, .class_ 16), (0, u "com/example/likeness/likeness/property/PropertyWriter")] 2

def k17m0 : Method := { name := "write", desc := "(Ljava/lang/Object;Ljava/lang/Object;)V", sig := { parameters := [(.object "java/lang/Object"), (.object "java/lang/Object")], returnType := none }, accessFlags := 1025, code := none }
/-- com/example/likeness/likeness/property/PropertyWriter$Access -/
def k17 : Class := { plain "com/example/likeness/likeness/property/PropertyWriter$Access" (some 0) with
  accessFlags := 1536
  interfaces := #[]
  cf := some (fileOf pool17 1 #[.nestHost 15] #[{ accessFlags := 1025, nameIndex := 5, descriptorIndex := 6, attributes := #[] }] 1536 3 #[] #[])
  fields := #[]
  methods := #[k17m0]
  instanceTypes := #[]
  staticTypes := #[]
  resolved := Array.replicate 19 none
  statics := none }

def pool18 : Array CpInfo := pool [(1, .class_ 2), (0, u "java/lang/String"), (1, .class_ 6), (1, u "java/lang/Object"), (0, u "<init>"), (0, u "()V"), (0, .methodref 1 10), (0, .nameAndType 11 12), (0, u "checkIndex"), (0, u "(II)V"), (1, .class_ 16), (1, u "java/lang/StringLatin1"), (36, u "([BI)C"), (36, u "canEncode"), (14, u "(C)Z"), (15, u "$assertionsDisabled"), (0, u "Z"), (98, .class_ 223), (1, u "java/lang/StringLatin1$LinesSpliterator"), (28, u "charAt"), (127, u "toBytes"), (1, u "(C)[B"), (7, .class_ 391), (0, u "java/lang/StringLatin1$CharsSpliterator")] 3

def k18m0 : Method := { name := "<init>", desc := "()V", sig := { parameters := [], returnType := none }, accessFlags := 0, code := none }
def k18c1 : Code := { maxStack := 2, maxLocals := 2, code := jdk_43_method_2_code, exceptionTable := #[], attributes := #[] }
def k18m1 : Method := { name := "charAt", desc := "([BI)C", sig := { parameters := [(.array .byte), .int], returnType := some .char }, accessFlags := 9, code := some k18c1 }
def k18c2 : Code := { maxStack := 2, maxLocals := 1, code := jdk_43_method_3_code, exceptionTable := #[], attributes := #[] }
def k18m2 : Method := { name := "canEncode", desc := "(C)Z", sig := { parameters := [.char], returnType := some .boolean }, accessFlags := 9, code := some k18c2 }
def k18c3 : Code := { maxStack := 4, maxLocals := 1, code := jdk_43_method_46_code, exceptionTable := #[], attributes := #[] }
def k18m3 : Method := { name := "toBytes", desc := "(C)[B", sig := { parameters := [.char], returnType := some (.array .byte) }, accessFlags := 9, code := some k18c3 }
/-- java/lang/StringLatin1 -/
def k18 : Class := { plain "java/lang/StringLatin1" (some 0) with
  accessFlags := 48
  interfaces := #[]
  cf := some (fileOf pool18 14 #[.nestMembers #[390, 221]] #[{ accessFlags := 0, nameIndex := 7, descriptorIndex := 8, attributes := #[] }, { accessFlags := 9, nameIndex := 252, descriptorIndex := 53, attributes := #[] }, { accessFlags := 9, nameIndex := 90, descriptorIndex := 105, attributes := #[] }, { accessFlags := 9, nameIndex := 380, descriptorIndex := 382, attributes := #[] }] 48 4 #[] #[{ accessFlags := 4120, nameIndex := 121, descriptorIndex := 122, attributes := #[] }])
  fields := #[{ name := "$assertionsDisabled", type := .boolean, accessFlags := 4120, slot := 0, constantValue := 0 }]
  methods := #[k18m0, k18m1, k18m2, k18m3]
  instanceTypes := #[]
  staticTypes := #[.boolean]
  resolved := Array.replicate 395 none
  statics := none }

def pool19 : Array CpInfo := pool [(2, .class_ 4), (1, u "java/lang/Object"), (0, u "<init>"), (0, u "()V"), (17, .class_ 26), (1, u "jdk/internal/util/Preconditions"), (6, u "checkIndex"), (21, .class_ 56), (0, u "jdk/internal/util/Preconditions$4"), (57, .class_ 115), (0, u "jdk/internal/util/Preconditions$1"), (7, u "SIOOBE_FORMATTER"), (0, u "Ljava/util/function/BiFunction;"), (0, .class_ 126), (0, u "jdk/internal/util/Preconditions$2"), (3, u "AIOOBE_FORMATTER"), (0, .class_ 132), (0, u "jdk/internal/util/Preconditions$3"), (3, u "IOOBE_FORMATTER"), (41, u "(IILjava/util/function/BiFunction;)I")] 15

def k19m0 : Method := { name := "<init>", desc := "()V", sig := { parameters := [], returnType := none }, accessFlags := 1, code := none }
def k19c1 : Code := { maxStack := 3, maxLocals := 3, code := jdk_41_method_11_code, exceptionTable := #[], attributes := #[] }
def k19m1 : Method := { name := "checkIndex", desc := "(IILjava/util/function/BiFunction;)I", sig := { parameters := [.int, .int, (.object "java/util/function/BiFunction")], returnType := some .int }, accessFlags := 9, code := some k19c1 }
/-- jdk/internal/util/Preconditions -/
def k19 : Class := { plain "jdk/internal/util/Preconditions" (some 0) with
  accessFlags := 33
  interfaces := #[]
  cf := some (fileOf pool19 24 #[.nestMembers #[55, 131, 125, 114]] #[{ accessFlags := 1, nameIndex := 5, descriptorIndex := 6, attributes := #[] }, { accessFlags := 9, nameIndex := 33, descriptorIndex := 178, attributes := #[] }] 33 2 #[] #[{ accessFlags := 25, nameIndex := 123, descriptorIndex := 124, attributes := #[] }, { accessFlags := 25, nameIndex := 130, descriptorIndex := 124, attributes := #[] }, { accessFlags := 25, nameIndex := 136, descriptorIndex := 124, attributes := #[] }])
  fields := #[{ name := "SIOOBE_FORMATTER", type := (.object "java/util/function/BiFunction"), accessFlags := 25, slot := 0, constantValue := 0 }, { name := "AIOOBE_FORMATTER", type := (.object "java/util/function/BiFunction"), accessFlags := 25, slot := 1, constantValue := 0 }, { name := "IOOBE_FORMATTER", type := (.object "java/util/function/BiFunction"), accessFlags := 25, slot := 2, constantValue := 0 }]
  methods := #[k19m0, k19m1]
  instanceTypes := #[]
  staticTypes := #[(.object "java/util/function/BiFunction"), (.object "java/util/function/BiFunction"), (.object "java/util/function/BiFunction")]
  resolved := Array.replicate 194 none
  statics := some 1 }

def pool20 : Array CpInfo := pool [(9, u "<init>"), (6, .class_ 18), (1, u "java/lang/Object"), (0, u "()V"), (1, .class_ 23), (1, u "jdk/internal/util/ArraysSupport"), (0, u "LOG2_ARRAY_LONG_INDEX_SCALE"), (0, u "I"), (2, u "U"), (0, u "Ljdk/internal/misc/Unsafe;"), (8, u "BIG_ENDIAN"), (0, u "Z"), (8, u "LOG2_BYTE_BIT_SIZE"), (4, u "LOG2_ARRAY_INT_INDEX_SCALE"), (54, u "JLA"), (0, u "Ljdk/internal/access/JavaLangAccess;"), (11, u "LOG2_ARRAY_BOOLEAN_INDEX_SCALE"), (9, u "LOG2_ARRAY_BYTE_INDEX_SCALE"), (5, u "LOG2_ARRAY_CHAR_INDEX_SCALE"), (5, u "LOG2_ARRAY_SHORT_INDEX_SCALE"), (18, u "LOG2_ARRAY_FLOAT_INDEX_SCALE"), (24, u "LOG2_ARRAY_DOUBLE_INDEX_SCALE"), (89, u "T_BOOLEAN"), (2, u "T_CHAR"), (1, u "T_FLOAT"), (1, u "T_DOUBLE"), (1, u "T_BYTE"), (1, u "T_SHORT"), (1, u "T_INT"), (1, u "T_LONG"), (1, u "SOFT_MAX_ARRAY_LENGTH")] 83

def k20m0 : Method := { name := "<init>", desc := "()V", sig := { parameters := [], returnType := none }, accessFlags := 2, code := none }
/-- jdk/internal/util/ArraysSupport -/
def k20 : Class := { plain "jdk/internal/util/ArraysSupport" (some 0) with
  accessFlags := 33
  interfaces := #[]
  cf := some (fileOf pool20 21 #[] #[{ accessFlags := 2, nameIndex := 9, descriptorIndex := 19, attributes := #[] }] 33 16 #[] #[{ accessFlags := 24, nameIndex := 28, descriptorIndex := 29, attributes := #[] }, { accessFlags := 26, nameIndex := 38, descriptorIndex := 39, attributes := #[] }, { accessFlags := 25, nameIndex := 121, descriptorIndex := 25, attributes := #[] }, { accessFlags := 25, nameIndex := 131, descriptorIndex := 25, attributes := #[] }, { accessFlags := 25, nameIndex := 137, descriptorIndex := 25, attributes := #[] }, { accessFlags := 25, nameIndex := 143, descriptorIndex := 25, attributes := #[] }, { accessFlags := 25, nameIndex := 53, descriptorIndex := 25, attributes := #[] }, { accessFlags := 25, nameIndex := 24, descriptorIndex := 25, attributes := #[] }, { accessFlags := 25, nameIndex := 162, descriptorIndex := 25, attributes := #[] }, { accessFlags := 25, nameIndex := 187, descriptorIndex := 25, attributes := #[] }, { accessFlags := 26, nameIndex := 48, descriptorIndex := 25, attributes := #[] }, { accessFlags := 25, nameIndex := 277, descriptorIndex := 25, attributes := #[] }, { accessFlags := 25, nameIndex := 280, descriptorIndex := 25, attributes := #[] }, { accessFlags := 25, nameIndex := 282, descriptorIndex := 25, attributes := #[] }, { accessFlags := 25, nameIndex := 284, descriptorIndex := 25, attributes := #[] }, { accessFlags := 25, nameIndex := 286, descriptorIndex := 25, attributes := #[] }, { accessFlags := 25, nameIndex := 288, descriptorIndex := 25, attributes := #[] }, { accessFlags := 25, nameIndex := 290, descriptorIndex := 25, attributes := #[] }, { accessFlags := 25, nameIndex := 292, descriptorIndex := 25, attributes := #[] }, { accessFlags := 26, nameIndex := 108, descriptorIndex := 109, attributes := #[] }, { accessFlags := 25, nameIndex := 294, descriptorIndex := 25, attributes := #[] }])
  fields := #[{ name := "U", type := (.object "jdk/internal/misc/Unsafe"), accessFlags := 24, slot := 0, constantValue := 0 }, { name := "BIG_ENDIAN", type := .boolean, accessFlags := 26, slot := 1, constantValue := 0 }, { name := "LOG2_ARRAY_BOOLEAN_INDEX_SCALE", type := .int, accessFlags := 25, slot := 2, constantValue := 0 }, { name := "LOG2_ARRAY_BYTE_INDEX_SCALE", type := .int, accessFlags := 25, slot := 3, constantValue := 0 }, { name := "LOG2_ARRAY_CHAR_INDEX_SCALE", type := .int, accessFlags := 25, slot := 4, constantValue := 0 }, { name := "LOG2_ARRAY_SHORT_INDEX_SCALE", type := .int, accessFlags := 25, slot := 5, constantValue := 0 }, { name := "LOG2_ARRAY_INT_INDEX_SCALE", type := .int, accessFlags := 25, slot := 6, constantValue := 0 }, { name := "LOG2_ARRAY_LONG_INDEX_SCALE", type := .int, accessFlags := 25, slot := 7, constantValue := 0 }, { name := "LOG2_ARRAY_FLOAT_INDEX_SCALE", type := .int, accessFlags := 25, slot := 8, constantValue := 0 }, { name := "LOG2_ARRAY_DOUBLE_INDEX_SCALE", type := .int, accessFlags := 25, slot := 9, constantValue := 0 }, { name := "LOG2_BYTE_BIT_SIZE", type := .int, accessFlags := 26, slot := 10, constantValue := 0 }, { name := "T_BOOLEAN", type := .int, accessFlags := 25, slot := 11, constantValue := 0 }, { name := "T_CHAR", type := .int, accessFlags := 25, slot := 12, constantValue := 0 }, { name := "T_FLOAT", type := .int, accessFlags := 25, slot := 13, constantValue := 0 }, { name := "T_DOUBLE", type := .int, accessFlags := 25, slot := 14, constantValue := 0 }, { name := "T_BYTE", type := .int, accessFlags := 25, slot := 15, constantValue := 0 }, { name := "T_SHORT", type := .int, accessFlags := 25, slot := 16, constantValue := 0 }, { name := "T_INT", type := .int, accessFlags := 25, slot := 17, constantValue := 0 }, { name := "T_LONG", type := .int, accessFlags := 25, slot := 18, constantValue := 0 }, { name := "JLA", type := (.object "jdk/internal/access/JavaLangAccess"), accessFlags := 26, slot := 19, constantValue := 0 }, { name := "SOFT_MAX_ARRAY_LENGTH", type := .int, accessFlags := 25, slot := 20, constantValue := 0 }]
  methods := #[k20m0]
  instanceTypes := #[]
  staticTypes := #[(.object "jdk/internal/misc/Unsafe"), .boolean, .int, .int, .int, .int, .int, .int, .int, .int, .int, .int, .int, .int, .int, .int, .int, .int, .int, (.object "jdk/internal/access/JavaLangAccess"), .int]
  resolved := Array.replicate 378 none
  statics := none }

def pool21 : Array CpInfo := pool [(1, u "java/lang/Class"), (0, .class_ 1), (0, u "java/lang/Object"), (0, .class_ 3)] 0

/-- java/lang/Class -/
def k21 : Class := { plain "java/lang/Class" (some 0) with
  accessFlags := 49
  interfaces := #[]
  cf := some (fileOf pool21 2 #[] #[] 49 4 #[] #[])
  fields := #[]
  methods := #[]
  instanceTypes := #[]
  staticTypes := #[]
  resolved := Array.replicate 5 none
  statics := none }

def pool22 : Array CpInfo := pool [(1, u "java/lang/Cloneable"), (0, .class_ 1), (0, u "java/lang/Object"), (0, .class_ 3)] 3

/-- java/lang/Cloneable -/
def k22 : Class := { plain "java/lang/Cloneable" (some 0) with
  accessFlags := 1537
  interfaces := #[]
  cf := some (fileOf pool22 2 #[] #[] 1537 4 #[] #[])
  fields := #[]
  methods := #[]
  instanceTypes := #[]
  staticTypes := #[]
  resolved := Array.replicate 8 none
  statics := none }

/-- the primitive byte -/
def k23 : Class := { plain "byte" none with kind := .primitive 'B', accessFlags := 0x411 }
/-- [B -/
def k24 : Class := { plain "[B" (some 0) with kind := .array 23 .byte, interfaces := #[22, 2], accessFlags := 1041 }

/-- the primitive char -/
def k25 : Class := { plain "char" none with kind := .primitive 'C', accessFlags := 0x411 }
/-- [C -/
def k26 : Class := { plain "[C" (some 0) with kind := .array 25 .char, interfaces := #[22, 2], accessFlags := 1041 }

/-- the primitive int -/
def k27 : Class := { plain "int" none with kind := .primitive 'I', accessFlags := 0x411 }
/-- [I -/
def k28 : Class := { plain "[I" (some 0) with kind := .array 27 .int, interfaces := #[22, 2], accessFlags := 1041 }

def classes0 : Array Class := #[k0, k1, k2, k3, k4, k5, k6, k7, k8, k9, k10, k11, k12, k13, k14, k15, k16, k17, k18, k19, k20, k21, k22, k23, k24, k25, k26, k27, k28]
/-- the class that the rule has made for the site at 32 of com/example/likeness/likeness/property/Elements.entryWriter -/
def k29 : Class := Jvm.LamKit.madeRec { classes := classes0 } "com/example/likeness/likeness/property/Elements" (Jvm.Lambda.Shape.mk "com/example/likeness/likeness/property/PropertyWriter$Access" "write" (Jvm.ClassFile.MethodDescriptor.mk ([(Jvm.ClassFile.FieldType.object "java/lang/Object"), (Jvm.ClassFile.FieldType.object "java/lang/Object")] : List Jvm.ClassFile.FieldType) (Option.none : Option Jvm.ClassFile.FieldType)) ([(Jvm.ClassFile.FieldType.object "java/lang/String")] : List Jvm.ClassFile.FieldType) (6 : Nat) "com/example/likeness/likeness/property/Elements" "lambda$entryWriter$4" (Jvm.ClassFile.MethodDescriptor.mk ([(Jvm.ClassFile.FieldType.object "java/lang/String"), (Jvm.ClassFile.FieldType.object "java/lang/Object"), (Jvm.ClassFile.FieldType.object "java/lang/Object")] : List Jvm.ClassFile.FieldType) (Option.none : Option Jvm.ClassFile.FieldType)) false (Jvm.ClassFile.MethodDescriptor.mk ([(Jvm.ClassFile.FieldType.object "java/lang/Object"), (Jvm.ClassFile.FieldType.object "java/lang/Object")] : List Jvm.ClassFile.FieldType) (Option.none : Option Jvm.ClassFile.FieldType))) 29

def heap : Heap := #[{ cls := 7, slots := #[.long 0, .int 1, .null, .int 0, .null, .int 0, .int 0], vm := .statics 7 },
  { cls := 19, slots := #[.null, .null, .null], vm := .statics 19 },
  { cls := 21, slots := #[], vm := .mirror 0 }]
def classes : Array Class := #[k0, k1, k2, k3, k4, k5, k6, k7, k8, k9, k10, k11, k12, k13, k14, k15, k16, k17, k18, k19, k20, k21, k22, k23, k24, k25, k26, k27, k28, k29]
def interned : List (Array UInt16 × Addr) := []
def slotsUsed : Nat := 10
def theMethod : MethodId := ⟨1, 1⟩
def args0 : Array Value := #[.int 6, .int 5]
def aboutOver (below : List Frame) : State where
  vm := { classes := classes, interned := interned.toArray }
  heap := heap
  slotsUsed := slotsUsed
  threads := #[{ frames := .invoking theMethod args0 :: below }]
def below0 : List Frame := [.native { method := ⟨0, 0⟩, args := #[] }]
def about1 : State := aboutOver below0
def p0 : Program := .bare "" "" ""
def e0 : Env := launch0.env 0 0 0
theorem w_frames : about1.frames = Frame.invoking theMethod args0 :: below0 := rfl
set_option maxRecDepth 65536 in
theorem w_args : argsFit about1.vm theMethod args0 = true := by decide +kernel
set_option maxRecDepth 65536 in
theorem w_heap : heapFits about1 = true := by decide +kernel
set_option maxRecDepth 65536 in
theorem w_runnable : about1.curStatus? = some .runnable := by decide +kernel
set_option maxRecDepth 65536 in
theorem w_alone : about1.alone = true := by decide +kernel
set_option maxRecDepth 65536 in
theorem w_named : about1.methodNamed? x = some theMethod := by decide +kernel
set_option maxRecDepth 65536 in
theorem w_hears : about1.hears theMethod below0 = true := by decide +kernel
set_option maxRecDepth 65536 in
theorem w_ripe : about1.ripe theMethod args0 below0 = true := by decide +kernel
theorem w_running : about1.status = .running := rfl
set_option maxRecDepth 65536 in
theorem w_room : about1.hasRoom e0.platform room_1 = true :=
  launch0.hasRoom_least _ room_1 (by decide +kernel) (by decide +kernel) (by decide +kernel) (by decide +kernel) (by decide +kernel) (by decide +kernel)
theorem allAtoms_all (ts : List Jvm.Cond) (a : Array Jvm.Value) (st : Jvm.State) : (allAtoms ts).before a st = ts.all (fun c => c.before a st) := by
  induction ts with
  | nil => rfl
  | cons c t ih =>
    show (Jvm.Cond.and c (allAtoms t)).before a st = _
    rw [Jvm.Cond.before_and, ih, List.all_cons]
def words1 : List Jvm.Cond := Jvm.Cond.code x code maxLocals ret :: tables_1
/-- a 'code' word, met by the world's own term for the bytes: nothing is compared byte by byte -/
theorem code_word {y : MethodName} {bytes : ByteArray} {mx : Nat} {rt : Option FieldType} {a : Array Value} {s : State} {m : MethodId} {meth : Method} {c : Code} (h1 : s.methodNamed? y = some m) (h2 : s.vm.method? m = some meth) (h3 : meth.code = some c) (h4 : c.code = bytes)
    (h5 : (c.maxLocals == mx && c.exceptionTable.isEmpty && decide (c.maxStack ≤ mostOperands) && decide (meth.sig.returnType = rt) && !meth.locks && decide (parseMethodDescriptor y.desc = some meth.sig)) = true) : (Jvm.Cond.code y bytes mx rt).before a s = true := by
  simp only [Bool.and_eq_true, beq_iff_eq, Bool.not_eq_true', decide_eq_true_eq] at h5
  obtain ⟨⟨⟨⟨⟨g1, g2⟩, g3⟩, g4⟩, g5⟩, g6⟩ := h5
  simp [Cond.before, Cond.holds, Cond.value, h1, h2, h3, h4, g1, g2, g3, g4, g5, g6]
def isCode : Jvm.Cond → Bool
  | .code _ _ _ _ => true
  | _ => false
theorem all_split {L : List Jvm.Cond} {P : Jvm.Cond → Bool} (h1 : L.all (fun c => isCode c || P c) = true) (h2 : ∀ c ∈ L.filter isCode, P c = true) : L.all P = true := by
  refine List.all_eq_true.mpr fun c hc => ?_
  have h := List.all_eq_true.mp h1 c hc
  rcases Bool.eq_false_or_eq_true (isCode c) with hi | hi
  · exact h2 c (List.mem_filter.mpr ⟨hc, hi⟩)
  · simpa [hi] using h
set_option maxRecDepth 65536 in
theorem w_c0 : (Jvm.Cond.code x code maxLocals ret).before args0 about1 = true := code_word (m := ⟨1, 1⟩) (meth := k1m1) (c := k1c1) (by decide +kernel) rfl rfl rfl (by decide +kernel)
set_option maxRecDepth 65536 in
theorem w_c1 : (Jvm.Cond.code ({ cls := "java/lang/String", name := "<init>", desc := "([C)V" } : Jvm.MethodName) jdk_42_method_3_code (2 : Nat) (Option.none : Option Jvm.ClassFile.FieldType)).before args0 about1 = true := code_word (m := ⟨7, 1⟩) (meth := k7m1) (c := k7c1) (by decide +kernel) rfl rfl rfl (by decide +kernel)
set_option maxRecDepth 65536 in
theorem w_c2 : (Jvm.Cond.code ({ cls := "java/lang/String", name := "<init>", desc := "([CIILjava/lang/Void;)V" } : Jvm.MethodName) jdk_42_method_149_code (6 : Nat) (Option.none : Option Jvm.ClassFile.FieldType)).before args0 about1 = true := code_word (m := ⟨7, 8⟩) (meth := k7m8) (c := k7c8) (by decide +kernel) rfl rfl rfl (by decide +kernel)
set_option maxRecDepth 65536 in
theorem w_c3 : (Jvm.Cond.code ({ cls := "java/lang/Object", name := "<init>", desc := "()V" } : Jvm.MethodName) object_method_1_code (1 : Nat) (Option.none : Option Jvm.ClassFile.FieldType)).before args0 about1 = true := code_word (m := ⟨0, 0⟩) (meth := k0m0) (c := k0c0) (by decide +kernel) rfl rfl rfl (by decide +kernel)
set_option maxRecDepth 65536 in
theorem w_c4 : (Jvm.Cond.code ({ cls := "java/lang/StringUTF16", name := "compress", desc := "([CII)[B" } : Jvm.MethodName) jdk_52_method_16_code (6 : Nat) (Option.some (Jvm.ClassFile.FieldType.array Jvm.ClassFile.FieldType.byte))).before args0 about1 = true := code_word (m := ⟨8, 2⟩) (meth := k8m2) (c := k8c2) (by decide +kernel) rfl rfl rfl (by decide +kernel)
set_option maxRecDepth 65536 in
theorem w_c5 : (Jvm.Cond.code ({ cls := "java/lang/StringUTF16", name := "compress", desc := "([CI[BII)I" } : Jvm.MethodName) jdk_52_method_21_code (7 : Nat) (Option.some Jvm.ClassFile.FieldType.int)).before args0 about1 = true := code_word (m := ⟨8, 3⟩) (meth := k8m3) (c := k8c3) (by decide +kernel) rfl rfl rfl (by decide +kernel)
set_option maxRecDepth 65536 in
theorem w_c6 : (Jvm.Cond.code ({ cls := "java/lang/StringUTF16", name := "coderFromArrayLen", desc := "([BI)B" } : Jvm.MethodName) jdk_52_method_15_code (2 : Nat) (Option.some Jvm.ClassFile.FieldType.byte)).before args0 about1 = true := code_word (m := ⟨8, 1⟩) (meth := k8m1) (c := k8c1) (by decide +kernel) rfl rfl rfl (by decide +kernel)
set_option maxRecDepth 65536 in
theorem w_c7 : (Jvm.Cond.code ({ cls := "com/example/likeness/likeness/property/Elements", name := "entryWriter", desc := "(Ljava/lang/String;)Lcom/example/likeness/likeness/property/PropertyWriter;" } : Jvm.MethodName) prog_46_method_7_code (1 : Nat) (Option.some (Jvm.ClassFile.FieldType.object "com/example/likeness/likeness/property/PropertyWriter"))).before args0 about1 = true := code_word (m := ⟨9, 1⟩) (meth := k9m1) (c := k9c1) (by decide +kernel) rfl rfl rfl (by decide +kernel)
set_option maxRecDepth 65536 in
theorem w_c8 : (Jvm.Cond.code ({ cls := "java/lang/StringBuilder", name := "<init>", desc := "()V" } : Jvm.MethodName) jdk_67_method_1_code (1 : Nat) (Option.none : Option Jvm.ClassFile.FieldType)).before args0 about1 = true := code_word (m := ⟨13, 0⟩) (meth := k13m0) (c := k13c0) (by decide +kernel) rfl rfl rfl (by decide +kernel)
set_option maxRecDepth 65536 in
theorem w_c9 : (Jvm.Cond.code ({ cls := "java/lang/AbstractStringBuilder", name := "<init>", desc := "(I)V" } : Jvm.MethodName) jdk_68_method_2_code (2 : Nat) (Option.none : Option Jvm.ClassFile.FieldType)).before args0 about1 = true := code_word (m := ⟨12, 1⟩) (meth := k12m1) (c := k12c1) (by decide +kernel) rfl rfl rfl (by decide +kernel)
set_option maxRecDepth 65536 in
theorem w_c10 : (Jvm.Cond.code ({ cls := "java/lang/StringBuilder", name := "append", desc := "(Ljava/lang/String;)Ljava/lang/StringBuilder;" } : Jvm.MethodName) jdk_67_method_7_code (2 : Nat) (Option.some (Jvm.ClassFile.FieldType.object "java/lang/StringBuilder"))).before args0 about1 = true := code_word (m := ⟨13, 1⟩) (meth := k13m1) (c := k13c1) (by decide +kernel) rfl rfl rfl (by decide +kernel)
set_option maxRecDepth 65536 in
theorem w_c11 : (Jvm.Cond.code ({ cls := "java/lang/AbstractStringBuilder", name := "append", desc := "(Ljava/lang/String;)Ljava/lang/AbstractStringBuilder;" } : Jvm.MethodName) jdk_68_method_22_code (3 : Nat) (Option.some (Jvm.ClassFile.FieldType.object "java/lang/AbstractStringBuilder"))).before args0 about1 = true := code_word (m := ⟨12, 4⟩) (meth := k12m4) (c := k12c4) (by decide +kernel) rfl rfl rfl (by decide +kernel)
set_option maxRecDepth 65536 in
theorem w_c12 : (Jvm.Cond.code ({ cls := "java/lang/String", name := "length", desc := "()I" } : Jvm.MethodName) jdk_42_method_54_code (1 : Nat) (Option.some Jvm.ClassFile.FieldType.int)).before args0 about1 = true := code_word (m := ⟨7, 3⟩) (meth := k7m3) (c := k7c3) (by decide +kernel) rfl rfl rfl (by decide +kernel)
set_option maxRecDepth 65536 in
theorem w_c13 : (Jvm.Cond.code ({ cls := "java/lang/String", name := "coder", desc := "()B" } : Jvm.MethodName) jdk_42_method_152_code (1 : Nat) (Option.some Jvm.ClassFile.FieldType.byte)).before args0 about1 = true := code_word (m := ⟨7, 11⟩) (meth := k7m11) (c := k7c11) (by decide +kernel) rfl rfl rfl (by decide +kernel)
set_option maxRecDepth 65536 in
theorem w_c14 : (Jvm.Cond.code ({ cls := "java/lang/AbstractStringBuilder", name := "ensureCapacityInternal", desc := "(I)V" } : Jvm.MethodName) jdk_68_method_9_code (3 : Nat) (Option.none : Option Jvm.ClassFile.FieldType)).before args0 about1 = true := code_word (m := ⟨12, 3⟩) (meth := k12m3) (c := k12c3) (by decide +kernel) rfl rfl rfl (by decide +kernel)
set_option maxRecDepth 65536 in
theorem w_c15 : (Jvm.Cond.code ({ cls := "java/lang/AbstractStringBuilder", name := "putStringAt", desc := "(ILjava/lang/String;)V" } : Jvm.MethodName) jdk_68_method_73_code (3 : Nat) (Option.none : Option Jvm.ClassFile.FieldType)).before args0 about1 = true := code_word (m := ⟨12, 8⟩) (meth := k12m8) (c := k12c8) (by decide +kernel) rfl rfl rfl (by decide +kernel)
set_option maxRecDepth 65536 in
theorem w_c16 : (Jvm.Cond.code ({ cls := "java/lang/AbstractStringBuilder", name := "inflateIfNeededFor", desc := "(Ljava/lang/String;)V" } : Jvm.MethodName) jdk_68_method_71_code (2 : Nat) (Option.none : Option Jvm.ClassFile.FieldType)).before args0 about1 = true := code_word (m := ⟨12, 7⟩) (meth := k12m7) (c := k12c7) (by decide +kernel) rfl rfl rfl (by decide +kernel)
set_option maxRecDepth 65536 in
theorem w_c17 : (Jvm.Cond.code ({ cls := "java/lang/String", name := "getBytes", desc := "([BIB)V" } : Jvm.MethodName) jdk_42_method_147_code (4 : Nat) (Option.none : Option Jvm.ClassFile.FieldType)).before args0 about1 = true := code_word (m := ⟨7, 7⟩) (meth := k7m7) (c := k7c7) (by decide +kernel) rfl rfl rfl (by decide +kernel)
set_option maxRecDepth 65536 in
theorem w_c18 : (Jvm.Cond.code ({ cls := "java/lang/StringBuilder", name := "toString", desc := "()Ljava/lang/String;" } : Jvm.MethodName) jdk_67_method_42_code (1 : Nat) (Option.some (Jvm.ClassFile.FieldType.object "java/lang/String"))).before args0 about1 = true := code_word (m := ⟨13, 2⟩) (meth := k13m2) (c := k13c2) (by decide +kernel) rfl rfl rfl (by decide +kernel)
set_option maxRecDepth 65536 in
theorem w_c19 : (Jvm.Cond.code ({ cls := "java/lang/String", name := "<init>", desc := "(Ljava/lang/StringBuilder;)V" } : Jvm.MethodName) jdk_42_method_53_code (2 : Nat) (Option.none : Option Jvm.ClassFile.FieldType)).before args0 about1 = true := code_word (m := ⟨7, 2⟩) (meth := k7m2) (c := k7c2) (by decide +kernel) rfl rfl rfl (by decide +kernel)
set_option maxRecDepth 65536 in
theorem w_c20 : (Jvm.Cond.code ({ cls := "java/lang/String", name := "<init>", desc := "(Ljava/lang/AbstractStringBuilder;Ljava/lang/Void;)V" } : Jvm.MethodName) jdk_42_method_150_code (5 : Nat) (Option.none : Option Jvm.ClassFile.FieldType)).before args0 about1 = true := code_word (m := ⟨7, 9⟩) (meth := k7m9) (c := k7c9) (by decide +kernel) rfl rfl rfl (by decide +kernel)
set_option maxRecDepth 65536 in
theorem w_c21 : (Jvm.Cond.code ({ cls := "java/lang/AbstractStringBuilder", name := "getValue", desc := "()[B" } : Jvm.MethodName) jdk_68_method_64_code (1 : Nat) (Option.some (Jvm.ClassFile.FieldType.array Jvm.ClassFile.FieldType.byte))).before args0 about1 = true := code_word (m := ⟨12, 5⟩) (meth := k12m5) (c := k12c5) (by decide +kernel) rfl rfl rfl (by decide +kernel)
set_option maxRecDepth 65536 in
theorem w_c22 : (Jvm.Cond.code ({ cls := "java/lang/StringBuilder", name := "length", desc := "()I" } : Jvm.MethodName) jdk_67_method_93_code (1 : Nat) (Option.some Jvm.ClassFile.FieldType.int)).before args0 about1 = true := code_word (m := ⟨13, 3⟩) (meth := k13m3) (c := k13c3) (by decide +kernel) rfl rfl rfl (by decide +kernel)
set_option maxRecDepth 65536 in
theorem w_c23 : (Jvm.Cond.code ({ cls := "java/lang/AbstractStringBuilder", name := "length", desc := "()I" } : Jvm.MethodName) jdk_68_method_6_code (1 : Nat) (Option.some Jvm.ClassFile.FieldType.int)).before args0 about1 = true := code_word (m := ⟨12, 2⟩) (meth := k12m2) (c := k12c2) (by decide +kernel) rfl rfl rfl (by decide +kernel)
set_option maxRecDepth 65536 in
theorem w_c24 : (Jvm.Cond.code ({ cls := "java/lang/AbstractStringBuilder", name := "isLatin1", desc := "()Z" } : Jvm.MethodName) jdk_68_method_68_code (1 : Nat) (Option.some Jvm.ClassFile.FieldType.boolean)).before args0 about1 = true := code_word (m := ⟨12, 6⟩) (meth := k12m6) (c := k12c6) (by decide +kernel) rfl rfl rfl (by decide +kernel)
set_option maxRecDepth 65536 in
theorem w_c25 : (Jvm.Cond.code ({ cls := "java/util/Arrays", name := "copyOfRange", desc := "([BII)[B" } : Jvm.MethodName) jdk_65_method_132_code (3 : Nat) (Option.some (Jvm.ClassFile.FieldType.array Jvm.ClassFile.FieldType.byte))).before args0 about1 = true := code_word (m := ⟨15, 2⟩) (meth := k15m2) (c := k15c2) (by decide +kernel) rfl rfl rfl (by decide +kernel)
set_option maxRecDepth 65536 in
theorem w_c26 : (Jvm.Cond.code ({ cls := "java/util/Arrays", name := "copyOfRangeByte", desc := "([BII)[B" } : Jvm.MethodName) jdk_65_method_133_code (5 : Nat) (Option.some (Jvm.ClassFile.FieldType.array Jvm.ClassFile.FieldType.byte))).before args0 about1 = true := code_word (m := ⟨15, 3⟩) (meth := k15m3) (c := k15c3) (by decide +kernel) rfl rfl rfl (by decide +kernel)
set_option maxRecDepth 65536 in
theorem w_c27 : (Jvm.Cond.code ({ cls := "java/util/Arrays", name := "checkLength", desc := "(II)V" } : Jvm.MethodName) jdk_65_method_131_code (2 : Nat) (Option.none : Option Jvm.ClassFile.FieldType)).before args0 about1 = true := code_word (m := ⟨15, 1⟩) (meth := k15m1) (c := k15c1) (by decide +kernel) rfl rfl rfl (by decide +kernel)
set_option maxRecDepth 65536 in
theorem w_c28 : (Jvm.Cond.code ({ cls := "java/lang/Math", name := "min", desc := "(II)I" } : Jvm.MethodName) jdk_29_method_69_code (2 : Nat) (Option.some Jvm.ClassFile.FieldType.int)).before args0 about1 = true := code_word (m := ⟨16, 1⟩) (meth := k16m1) (c := k16c1) (by decide +kernel) rfl rfl rfl (by decide +kernel)
set_option maxRecDepth 65536 in
theorem w_c29 : (Jvm.Cond.code ({ cls := "com/example/likeness/likeness/property/PropertyWriter", name := "<init>", desc := "(Ljava/lang/String;Ljava/lang/reflect/Type;Ljava/lang/String;Lcom/example/likeness/likeness/property/PropertyWriter$Access;)V" } : Jvm.MethodName) prog_52_method_1_code (5 : Nat) (Option.none : Option Jvm.ClassFile.FieldType)).before args0 about1 = true := code_word (m := ⟨10, 0⟩) (meth := k10m0) (c := k10c0) (by decide +kernel) rfl rfl rfl (by decide +kernel)
set_option maxRecDepth 65536 in
theorem w_c30 : (Jvm.Cond.code ({ cls := "com/example/likeness/likeness/property/PropertyWriter", name := "<init>", desc := "(Ljava/lang/String;Ljava/lang/reflect/Type;Ljava/lang/String;Lcom/example/likeness/likeness/property/PropertyWriter$Access;Z)V" } : Jvm.MethodName) prog_52_method_2_code (6 : Nat) (Option.none : Option Jvm.ClassFile.FieldType)).before args0 about1 = true := code_word (m := ⟨10, 1⟩) (meth := k10m1) (c := k10c1) (by decide +kernel) rfl rfl rfl (by decide +kernel)
set_option maxRecDepth 65536 in
theorem w_c31 : (Jvm.Cond.code ({ cls := "com/example/likeness/likeness/property/PropertyWriter", name := "<init>", desc := "(Ljava/lang/String;Ljava/lang/reflect/Type;Ljava/lang/String;Lcom/example/likeness/likeness/property/PropertyWriter$Access;ZLjava/lang/invoke/MethodHandle;Ljava/lang/invoke/MethodHandle;)V" } : Jvm.MethodName) prog_52_method_3_code (8 : Nat) (Option.none : Option Jvm.ClassFile.FieldType)).before args0 about1 = true := code_word (m := ⟨10, 2⟩) (meth := k10m2) (c := k10c2) (by decide +kernel) rfl rfl rfl (by decide +kernel)
set_option maxRecDepth 65536 in
theorem w_c32 : (Jvm.Cond.code ({ cls := "com/example/likeness/likeness/property/PropertyWriter", name := "name", desc := "()Ljava/lang/String;" } : Jvm.MethodName) prog_52_method_5_code (1 : Nat) (Option.some (Jvm.ClassFile.FieldType.object "java/lang/String"))).before args0 about1 = true := code_word (m := ⟨10, 3⟩) (meth := k10m3) (c := k10c3) (by decide +kernel) rfl rfl rfl (by decide +kernel)
set_option maxRecDepth 65536 in
theorem w_c33 : (Jvm.Cond.code ({ cls := "java/lang/String", name := "equals", desc := "(Ljava/lang/Object;)Z" } : Jvm.MethodName) jdk_42_method_66_code (3 : Nat) (Option.some Jvm.ClassFile.FieldType.boolean)).before args0 about1 = true := code_word (m := ⟨7, 5⟩) (meth := k7m5) (c := k7c5) (by decide +kernel) rfl rfl rfl (by decide +kernel)
set_option maxRecDepth 65536 in
theorem w_c34 : (Jvm.Cond.code ({ cls := "com/example/likeness/likeness/property/PropertyWriter", name := "type", desc := "()Ljava/lang/reflect/Type;" } : Jvm.MethodName) prog_52_method_6_code (1 : Nat) (Option.some (Jvm.ClassFile.FieldType.object "java/lang/reflect/Type"))).before args0 about1 = true := code_word (m := ⟨10, 4⟩) (meth := k10m4) (c := k10c4) (by decide +kernel) rfl rfl rfl (by decide +kernel)
set_option maxRecDepth 65536 in
theorem w_c35 : (Jvm.Cond.code ({ cls := "com/example/likeness/likeness/property/PropertyWriter", name := "fillsHeld", desc := "()Z" } : Jvm.MethodName) prog_52_method_7_code (1 : Nat) (Option.some Jvm.ClassFile.FieldType.boolean)).before args0 about1 = true := code_word (m := ⟨10, 5⟩) (meth := k10m5) (c := k10c5) (by decide +kernel) rfl rfl rfl (by decide +kernel)
set_option maxRecDepth 65536 in
theorem w_c36 : (Jvm.Cond.code ({ cls := "com/example/likeness/likeness/property/PropertyWriter", name := "member", desc := "()Ljava/lang/invoke/MethodHandle;" } : Jvm.MethodName) prog_52_method_9_code (1 : Nat) (Option.some (Jvm.ClassFile.FieldType.object "java/lang/invoke/MethodHandle"))).before args0 about1 = true := code_word (m := ⟨10, 6⟩) (meth := k10m6) (c := k10c6) (by decide +kernel) rfl rfl rfl (by decide +kernel)
set_option maxRecDepth 65536 in
theorem w_c37 : (Jvm.Cond.code ({ cls := "com/example/likeness/likeness/property/PropertyWriter", name := "handle", desc := "()Ljava/lang/invoke/MethodHandle;" } : Jvm.MethodName) prog_52_method_10_code (1 : Nat) (Option.some (Jvm.ClassFile.FieldType.object "java/lang/invoke/MethodHandle"))).before args0 about1 = true := code_word (m := ⟨10, 7⟩) (meth := k10m7) (c := k10c7) (by decide +kernel) rfl rfl rfl (by decide +kernel)
set_option maxRecDepth 65536 in
theorem w_c38 : (Jvm.Cond.code ({ cls := "com/example/likeness/likeness/property/PropertyWriter", name := "toString", desc := "()Ljava/lang/String;" } : Jvm.MethodName) prog_52_method_11_code (1 : Nat) (Option.some (Jvm.ClassFile.FieldType.object "java/lang/String"))).before args0 about1 = true := code_word (m := ⟨10, 8⟩) (meth := k10m8) (c := k10c8) (by decide +kernel) rfl rfl rfl (by decide +kernel)
set_option maxRecDepth 65536 in
theorem w_c39 : (Jvm.Cond.code ({ cls := "com/example/likeness/likeness/property/ElementsEntryWriterPinLaw", name := "describes", desc := "(Ljava/lang/String;ICCC)Z" } : Jvm.MethodName) method_3_code (7 : Nat) (Option.some Jvm.ClassFile.FieldType.boolean)).before args0 about1 = true := code_word (m := ⟨1, 2⟩) (meth := k1m2) (c := k1c2) (by decide +kernel) rfl rfl rfl (by decide +kernel)
set_option maxRecDepth 65536 in
theorem w_c40 : (Jvm.Cond.code ({ cls := "java/lang/String", name := "charAt", desc := "(I)C" } : Jvm.MethodName) jdk_42_method_56_code (2 : Nat) (Option.some Jvm.ClassFile.FieldType.char)).before args0 about1 = true := code_word (m := ⟨7, 4⟩) (meth := k7m4) (c := k7c4) (by decide +kernel) rfl rfl rfl (by decide +kernel)
set_option maxRecDepth 65536 in
theorem w_c41 : (Jvm.Cond.code ({ cls := "java/lang/String", name := "isLatin1", desc := "()Z" } : Jvm.MethodName) jdk_42_method_154_code (1 : Nat) (Option.some Jvm.ClassFile.FieldType.boolean)).before args0 about1 = true := code_word (m := ⟨7, 12⟩) (meth := k7m12) (c := k7c12) (by decide +kernel) rfl rfl rfl (by decide +kernel)
set_option maxRecDepth 65536 in
theorem w_c42 : (Jvm.Cond.code ({ cls := "java/lang/StringLatin1", name := "charAt", desc := "([BI)C" } : Jvm.MethodName) jdk_43_method_2_code (2 : Nat) (Option.some Jvm.ClassFile.FieldType.char)).before args0 about1 = true := code_word (m := ⟨18, 1⟩) (meth := k18m1) (c := k18c1) (by decide +kernel) rfl rfl rfl (by decide +kernel)
set_option maxRecDepth 65536 in
theorem w_c43 : (Jvm.Cond.code ({ cls := "java/lang/String", name := "checkIndex", desc := "(II)V" } : Jvm.MethodName) jdk_42_method_155_code (2 : Nat) (Option.none : Option Jvm.ClassFile.FieldType)).before args0 about1 = true := code_word (m := ⟨7, 13⟩) (meth := k7m13) (c := k7c13) (by decide +kernel) rfl rfl rfl (by decide +kernel)
set_option maxRecDepth 65536 in
theorem w_c44 : (Jvm.Cond.code ({ cls := "jdk/internal/util/Preconditions", name := "checkIndex", desc := "(IILjava/util/function/BiFunction;)I" } : Jvm.MethodName) jdk_41_method_11_code (3 : Nat) (Option.some Jvm.ClassFile.FieldType.int)).before args0 about1 = true := code_word (m := ⟨19, 1⟩) (meth := k19m1) (c := k19c1) (by decide +kernel) rfl rfl rfl (by decide +kernel)
set_option maxRecDepth 65536 in
theorem w_c45 : (Jvm.Cond.code ({ cls := "java/lang/String", name := "valueOf", desc := "(C)Ljava/lang/String;" } : Jvm.MethodName) jdk_42_method_139_code (1 : Nat) (Option.some (Jvm.ClassFile.FieldType.object "java/lang/String"))).before args0 about1 = true := code_word (m := ⟨7, 6⟩) (meth := k7m6) (c := k7c6) (by decide +kernel) rfl rfl rfl (by decide +kernel)
set_option maxRecDepth 65536 in
theorem w_c46 : (Jvm.Cond.code ({ cls := "java/lang/StringLatin1", name := "canEncode", desc := "(C)Z" } : Jvm.MethodName) jdk_43_method_3_code (1 : Nat) (Option.some Jvm.ClassFile.FieldType.boolean)).before args0 about1 = true := code_word (m := ⟨18, 2⟩) (meth := k18m2) (c := k18c2) (by decide +kernel) rfl rfl rfl (by decide +kernel)
set_option maxRecDepth 65536 in
theorem w_c47 : (Jvm.Cond.code ({ cls := "java/lang/StringLatin1", name := "toBytes", desc := "(C)[B" } : Jvm.MethodName) jdk_43_method_46_code (1 : Nat) (Option.some (Jvm.ClassFile.FieldType.array Jvm.ClassFile.FieldType.byte))).before args0 about1 = true := code_word (m := ⟨18, 3⟩) (meth := k18m3) (c := k18c3) (by decide +kernel) rfl rfl rfl (by decide +kernel)
set_option maxRecDepth 65536 in
theorem w_c48 : (Jvm.Cond.code ({ cls := "java/lang/String", name := "<init>", desc := "([BB)V" } : Jvm.MethodName) jdk_42_method_151_code (3 : Nat) (Option.none : Option Jvm.ClassFile.FieldType)).before args0 about1 = true := code_word (m := ⟨7, 10⟩) (meth := k7m10) (c := k7c10) (by decide +kernel) rfl rfl rfl (by decide +kernel)
def codes1 : List Jvm.Cond := [Jvm.Cond.code x code maxLocals ret, Jvm.Cond.code ({ cls := "java/lang/String", name := "<init>", desc := "([C)V" } : Jvm.MethodName) jdk_42_method_3_code (2 : Nat) (Option.none : Option Jvm.ClassFile.FieldType), Jvm.Cond.code ({ cls := "java/lang/String", name := "<init>", desc := "([CIILjava/lang/Void;)V" } : Jvm.MethodName) jdk_42_method_149_code (6 : Nat) (Option.none : Option Jvm.ClassFile.FieldType), Jvm.Cond.code ({ cls := "java/lang/Object", name := "<init>", desc := "()V" } : Jvm.MethodName) object_method_1_code (1 : Nat) (Option.none : Option Jvm.ClassFile.FieldType), Jvm.Cond.code ({ cls := "java/lang/StringUTF16", name := "compress", desc := "([CII)[B" } : Jvm.MethodName) jdk_52_method_16_code (6 : Nat) (Option.some (Jvm.ClassFile.FieldType.array Jvm.ClassFile.FieldType.byte)), Jvm.Cond.code ({ cls := "java/lang/StringUTF16", name := "compress", desc := "([CI[BII)I" } : Jvm.MethodName) jdk_52_method_21_code (7 : Nat) (Option.some Jvm.ClassFile.FieldType.int), Jvm.Cond.code ({ cls := "java/lang/StringUTF16", name := "coderFromArrayLen", desc := "([BI)B" } : Jvm.MethodName) jdk_52_method_15_code (2 : Nat) (Option.some Jvm.ClassFile.FieldType.byte), Jvm.Cond.code ({ cls := "com/example/likeness/likeness/property/Elements", name := "entryWriter", desc := "(Ljava/lang/String;)Lcom/example/likeness/likeness/property/PropertyWriter;" } : Jvm.MethodName) prog_46_method_7_code (1 : Nat) (Option.some (Jvm.ClassFile.FieldType.object "com/example/likeness/likeness/property/PropertyWriter")), Jvm.Cond.code ({ cls := "java/lang/StringBuilder", name := "<init>", desc := "()V" } : Jvm.MethodName) jdk_67_method_1_code (1 : Nat) (Option.none : Option Jvm.ClassFile.FieldType), Jvm.Cond.code ({ cls := "java/lang/AbstractStringBuilder", name := "<init>", desc := "(I)V" } : Jvm.MethodName) jdk_68_method_2_code (2 : Nat) (Option.none : Option Jvm.ClassFile.FieldType), Jvm.Cond.code ({ cls := "java/lang/StringBuilder", name := "append", desc := "(Ljava/lang/String;)Ljava/lang/StringBuilder;" } : Jvm.MethodName) jdk_67_method_7_code (2 : Nat) (Option.some (Jvm.ClassFile.FieldType.object "java/lang/StringBuilder")), Jvm.Cond.code ({ cls := "java/lang/AbstractStringBuilder", name := "append", desc := "(Ljava/lang/String;)Ljava/lang/AbstractStringBuilder;" } : Jvm.MethodName) jdk_68_method_22_code (3 : Nat) (Option.some (Jvm.ClassFile.FieldType.object "java/lang/AbstractStringBuilder")), Jvm.Cond.code ({ cls := "java/lang/String", name := "length", desc := "()I" } : Jvm.MethodName) jdk_42_method_54_code (1 : Nat) (Option.some Jvm.ClassFile.FieldType.int), Jvm.Cond.code ({ cls := "java/lang/String", name := "coder", desc := "()B" } : Jvm.MethodName) jdk_42_method_152_code (1 : Nat) (Option.some Jvm.ClassFile.FieldType.byte), Jvm.Cond.code ({ cls := "java/lang/AbstractStringBuilder", name := "ensureCapacityInternal", desc := "(I)V" } : Jvm.MethodName) jdk_68_method_9_code (3 : Nat) (Option.none : Option Jvm.ClassFile.FieldType), Jvm.Cond.code ({ cls := "java/lang/AbstractStringBuilder", name := "putStringAt", desc := "(ILjava/lang/String;)V" } : Jvm.MethodName) jdk_68_method_73_code (3 : Nat) (Option.none : Option Jvm.ClassFile.FieldType), Jvm.Cond.code ({ cls := "java/lang/AbstractStringBuilder", name := "inflateIfNeededFor", desc := "(Ljava/lang/String;)V" } : Jvm.MethodName) jdk_68_method_71_code (2 : Nat) (Option.none : Option Jvm.ClassFile.FieldType), Jvm.Cond.code ({ cls := "java/lang/String", name := "getBytes", desc := "([BIB)V" } : Jvm.MethodName) jdk_42_method_147_code (4 : Nat) (Option.none : Option Jvm.ClassFile.FieldType), Jvm.Cond.code ({ cls := "java/lang/StringBuilder", name := "toString", desc := "()Ljava/lang/String;" } : Jvm.MethodName) jdk_67_method_42_code (1 : Nat) (Option.some (Jvm.ClassFile.FieldType.object "java/lang/String")), Jvm.Cond.code ({ cls := "java/lang/String", name := "<init>", desc := "(Ljava/lang/StringBuilder;)V" } : Jvm.MethodName) jdk_42_method_53_code (2 : Nat) (Option.none : Option Jvm.ClassFile.FieldType), Jvm.Cond.code ({ cls := "java/lang/String", name := "<init>", desc := "(Ljava/lang/AbstractStringBuilder;Ljava/lang/Void;)V" } : Jvm.MethodName) jdk_42_method_150_code (5 : Nat) (Option.none : Option Jvm.ClassFile.FieldType), Jvm.Cond.code ({ cls := "java/lang/AbstractStringBuilder", name := "getValue", desc := "()[B" } : Jvm.MethodName) jdk_68_method_64_code (1 : Nat) (Option.some (Jvm.ClassFile.FieldType.array Jvm.ClassFile.FieldType.byte)), Jvm.Cond.code ({ cls := "java/lang/StringBuilder", name := "length", desc := "()I" } : Jvm.MethodName) jdk_67_method_93_code (1 : Nat) (Option.some Jvm.ClassFile.FieldType.int), Jvm.Cond.code ({ cls := "java/lang/AbstractStringBuilder", name := "length", desc := "()I" } : Jvm.MethodName) jdk_68_method_6_code (1 : Nat) (Option.some Jvm.ClassFile.FieldType.int), Jvm.Cond.code ({ cls := "java/lang/AbstractStringBuilder", name := "isLatin1", desc := "()Z" } : Jvm.MethodName) jdk_68_method_68_code (1 : Nat) (Option.some Jvm.ClassFile.FieldType.boolean), Jvm.Cond.code ({ cls := "java/util/Arrays", name := "copyOfRange", desc := "([BII)[B" } : Jvm.MethodName) jdk_65_method_132_code (3 : Nat) (Option.some (Jvm.ClassFile.FieldType.array Jvm.ClassFile.FieldType.byte)), Jvm.Cond.code ({ cls := "java/util/Arrays", name := "copyOfRangeByte", desc := "([BII)[B" } : Jvm.MethodName) jdk_65_method_133_code (5 : Nat) (Option.some (Jvm.ClassFile.FieldType.array Jvm.ClassFile.FieldType.byte)), Jvm.Cond.code ({ cls := "java/util/Arrays", name := "checkLength", desc := "(II)V" } : Jvm.MethodName) jdk_65_method_131_code (2 : Nat) (Option.none : Option Jvm.ClassFile.FieldType), Jvm.Cond.code ({ cls := "java/lang/Math", name := "min", desc := "(II)I" } : Jvm.MethodName) jdk_29_method_69_code (2 : Nat) (Option.some Jvm.ClassFile.FieldType.int), Jvm.Cond.code ({ cls := "com/example/likeness/likeness/property/PropertyWriter", name := "<init>", desc := "(Ljava/lang/String;Ljava/lang/reflect/Type;Ljava/lang/String;Lcom/example/likeness/likeness/property/PropertyWriter$Access;)V" } : Jvm.MethodName) prog_52_method_1_code (5 : Nat) (Option.none : Option Jvm.ClassFile.FieldType), Jvm.Cond.code ({ cls := "com/example/likeness/likeness/property/PropertyWriter", name := "<init>", desc := "(Ljava/lang/String;Ljava/lang/reflect/Type;Ljava/lang/String;Lcom/example/likeness/likeness/property/PropertyWriter$Access;Z)V" } : Jvm.MethodName) prog_52_method_2_code (6 : Nat) (Option.none : Option Jvm.ClassFile.FieldType), Jvm.Cond.code ({ cls := "com/example/likeness/likeness/property/PropertyWriter", name := "<init>", desc := "(Ljava/lang/String;Ljava/lang/reflect/Type;Ljava/lang/String;Lcom/example/likeness/likeness/property/PropertyWriter$Access;ZLjava/lang/invoke/MethodHandle;Ljava/lang/invoke/MethodHandle;)V" } : Jvm.MethodName) prog_52_method_3_code (8 : Nat) (Option.none : Option Jvm.ClassFile.FieldType), Jvm.Cond.code ({ cls := "com/example/likeness/likeness/property/PropertyWriter", name := "name", desc := "()Ljava/lang/String;" } : Jvm.MethodName) prog_52_method_5_code (1 : Nat) (Option.some (Jvm.ClassFile.FieldType.object "java/lang/String")), Jvm.Cond.code ({ cls := "java/lang/String", name := "equals", desc := "(Ljava/lang/Object;)Z" } : Jvm.MethodName) jdk_42_method_66_code (3 : Nat) (Option.some Jvm.ClassFile.FieldType.boolean), Jvm.Cond.code ({ cls := "com/example/likeness/likeness/property/PropertyWriter", name := "type", desc := "()Ljava/lang/reflect/Type;" } : Jvm.MethodName) prog_52_method_6_code (1 : Nat) (Option.some (Jvm.ClassFile.FieldType.object "java/lang/reflect/Type")), Jvm.Cond.code ({ cls := "com/example/likeness/likeness/property/PropertyWriter", name := "fillsHeld", desc := "()Z" } : Jvm.MethodName) prog_52_method_7_code (1 : Nat) (Option.some Jvm.ClassFile.FieldType.boolean), Jvm.Cond.code ({ cls := "com/example/likeness/likeness/property/PropertyWriter", name := "member", desc := "()Ljava/lang/invoke/MethodHandle;" } : Jvm.MethodName) prog_52_method_9_code (1 : Nat) (Option.some (Jvm.ClassFile.FieldType.object "java/lang/invoke/MethodHandle")), Jvm.Cond.code ({ cls := "com/example/likeness/likeness/property/PropertyWriter", name := "handle", desc := "()Ljava/lang/invoke/MethodHandle;" } : Jvm.MethodName) prog_52_method_10_code (1 : Nat) (Option.some (Jvm.ClassFile.FieldType.object "java/lang/invoke/MethodHandle")), Jvm.Cond.code ({ cls := "com/example/likeness/likeness/property/PropertyWriter", name := "toString", desc := "()Ljava/lang/String;" } : Jvm.MethodName) prog_52_method_11_code (1 : Nat) (Option.some (Jvm.ClassFile.FieldType.object "java/lang/String")), Jvm.Cond.code ({ cls := "com/example/likeness/likeness/property/ElementsEntryWriterPinLaw", name := "describes", desc := "(Ljava/lang/String;ICCC)Z" } : Jvm.MethodName) method_3_code (7 : Nat) (Option.some Jvm.ClassFile.FieldType.boolean), Jvm.Cond.code ({ cls := "java/lang/String", name := "charAt", desc := "(I)C" } : Jvm.MethodName) jdk_42_method_56_code (2 : Nat) (Option.some Jvm.ClassFile.FieldType.char), Jvm.Cond.code ({ cls := "java/lang/String", name := "isLatin1", desc := "()Z" } : Jvm.MethodName) jdk_42_method_154_code (1 : Nat) (Option.some Jvm.ClassFile.FieldType.boolean), Jvm.Cond.code ({ cls := "java/lang/StringLatin1", name := "charAt", desc := "([BI)C" } : Jvm.MethodName) jdk_43_method_2_code (2 : Nat) (Option.some Jvm.ClassFile.FieldType.char), Jvm.Cond.code ({ cls := "java/lang/String", name := "checkIndex", desc := "(II)V" } : Jvm.MethodName) jdk_42_method_155_code (2 : Nat) (Option.none : Option Jvm.ClassFile.FieldType), Jvm.Cond.code ({ cls := "jdk/internal/util/Preconditions", name := "checkIndex", desc := "(IILjava/util/function/BiFunction;)I" } : Jvm.MethodName) jdk_41_method_11_code (3 : Nat) (Option.some Jvm.ClassFile.FieldType.int), Jvm.Cond.code ({ cls := "java/lang/String", name := "valueOf", desc := "(C)Ljava/lang/String;" } : Jvm.MethodName) jdk_42_method_139_code (1 : Nat) (Option.some (Jvm.ClassFile.FieldType.object "java/lang/String")), Jvm.Cond.code ({ cls := "java/lang/StringLatin1", name := "canEncode", desc := "(C)Z" } : Jvm.MethodName) jdk_43_method_3_code (1 : Nat) (Option.some Jvm.ClassFile.FieldType.boolean), Jvm.Cond.code ({ cls := "java/lang/StringLatin1", name := "toBytes", desc := "(C)[B" } : Jvm.MethodName) jdk_43_method_46_code (1 : Nat) (Option.some (Jvm.ClassFile.FieldType.array Jvm.ClassFile.FieldType.byte)), Jvm.Cond.code ({ cls := "java/lang/String", name := "<init>", desc := "([BB)V" } : Jvm.MethodName) jdk_42_method_151_code (3 : Nat) (Option.none : Option Jvm.ClassFile.FieldType)]
set_option maxRecDepth 65536 in
theorem codes_eq : words1.filter isCode = codes1 := rfl
theorem w_codes : ∀ c ∈ words1.filter isCode, c.before args0 about1 = true := by
  rw [codes_eq]
  intro c hc
  simp only [codes1, List.mem_cons, List.not_mem_nil, or_false] at hc
  rcases hc with rfl | rfl | rfl | rfl | rfl | rfl | rfl | rfl | rfl | rfl | rfl | rfl | rfl | rfl | rfl | rfl | rfl | rfl | rfl | rfl | rfl | rfl | rfl | rfl | rfl | rfl | rfl | rfl | rfl | rfl | rfl | rfl | rfl | rfl | rfl | rfl | rfl | rfl | rfl | rfl | rfl | rfl | rfl | rfl | rfl | rfl | rfl | rfl | rfl
  · exact w_c0
  · exact w_c1
  · exact w_c2
  · exact w_c3
  · exact w_c4
  · exact w_c5
  · exact w_c6
  · exact w_c7
  · exact w_c8
  · exact w_c9
  · exact w_c10
  · exact w_c11
  · exact w_c12
  · exact w_c13
  · exact w_c14
  · exact w_c15
  · exact w_c16
  · exact w_c17
  · exact w_c18
  · exact w_c19
  · exact w_c20
  · exact w_c21
  · exact w_c22
  · exact w_c23
  · exact w_c24
  · exact w_c25
  · exact w_c26
  · exact w_c27
  · exact w_c28
  · exact w_c29
  · exact w_c30
  · exact w_c31
  · exact w_c32
  · exact w_c33
  · exact w_c34
  · exact w_c35
  · exact w_c36
  · exact w_c37
  · exact w_c38
  · exact w_c39
  · exact w_c40
  · exact w_c41
  · exact w_c42
  · exact w_c43
  · exact w_c44
  · exact w_c45
  · exact w_c46
  · exact w_c47
  · exact w_c48
set_option maxRecDepth 65536 in
theorem w_t1 : (words1.take 24).all (fun c => isCode c || c.before args0 about1) = true := by decide +kernel
set_option maxRecDepth 65536 in
theorem w_t2 : ((words1.drop 24).take 24).all (fun c => isCode c || c.before args0 about1) = true := by decide +kernel
set_option maxRecDepth 65536 in
theorem w_t3 : (((words1.drop 24).drop 24).take 24).all (fun c => isCode c || c.before args0 about1) = true := by decide +kernel
set_option maxRecDepth 65536 in
theorem w_t4 : ((((words1.drop 24).drop 24).drop 24).take 24).all (fun c => isCode c || c.before args0 about1) = true := by decide +kernel
set_option maxRecDepth 65536 in
theorem w_t5 : (((((words1.drop 24).drop 24).drop 24).drop 24).take 24).all (fun c => isCode c || c.before args0 about1) = true := by decide +kernel
set_option maxRecDepth 65536 in
theorem w_t6 : ((((((words1.drop 24).drop 24).drop 24).drop 24).drop 24).take 24).all (fun c => isCode c || c.before args0 about1) = true := by decide +kernel
set_option maxRecDepth 65536 in
theorem w_t7 : (((((((words1.drop 24).drop 24).drop 24).drop 24).drop 24).drop 24).take 24).all (fun c => isCode c || c.before args0 about1) = true := by decide +kernel
set_option maxRecDepth 65536 in
theorem w_t8 : ((((((((words1.drop 24).drop 24).drop 24).drop 24).drop 24).drop 24).drop 24).take 24).all (fun c => isCode c || c.before args0 about1) = true := by decide +kernel
set_option maxRecDepth 65536 in
theorem w_t9 : (((((((((words1.drop 24).drop 24).drop 24).drop 24).drop 24).drop 24).drop 24).drop 24).take 24).all (fun c => isCode c || c.before args0 about1) = true := by decide +kernel
set_option maxRecDepth 65536 in
theorem w_t10 : ((((((((((words1.drop 24).drop 24).drop 24).drop 24).drop 24).drop 24).drop 24).drop 24).drop 24).take 24).all (fun c => isCode c || c.before args0 about1) = true := by decide +kernel
set_option maxRecDepth 65536 in
theorem w_t11 : ((((((((((words1.drop 24).drop 24).drop 24).drop 24).drop 24).drop 24).drop 24).drop 24).drop 24).drop 24).all (fun c => isCode c || c.before args0 about1) = true := by decide +kernel
theorem w_tables : (allAtoms (Jvm.Cond.code x code maxLocals ret :: tables_1)).before args0 about1 = true := by
  rw [allAtoms_all]
  show words1.all (fun c => c.before args0 about1) = true
  refine all_split ?_ w_codes
  rw [← List.take_append_drop 24 words1, List.all_append, w_t1, ← List.take_append_drop 24 (words1.drop 24), List.all_append, w_t2, ← List.take_append_drop 24 ((words1.drop 24).drop 24), List.all_append, w_t3, ← List.take_append_drop 24 (((words1.drop 24).drop 24).drop 24), List.all_append, w_t4, ← List.take_append_drop 24 ((((words1.drop 24).drop 24).drop 24).drop 24), List.all_append, w_t5, ← List.take_append_drop 24 (((((words1.drop 24).drop 24).drop 24).drop 24).drop 24), List.all_append, w_t6, ← List.take_append_drop 24 ((((((words1.drop 24).drop 24).drop 24).drop 24).drop 24).drop 24), List.all_append, w_t7, ← List.take_append_drop 24 (((((((words1.drop 24).drop 24).drop 24).drop 24).drop 24).drop 24).drop 24), List.all_append, w_t8, ← List.take_append_drop 24 ((((((((words1.drop 24).drop 24).drop 24).drop 24).drop 24).drop 24).drop 24).drop 24), List.all_append, w_t9, ← List.take_append_drop 24 (((((((((words1.drop 24).drop 24).drop 24).drop 24).drop 24).drop 24).drop 24).drop 24).drop 24), List.all_append, w_t10, w_t11]
  rfl
set_option maxRecDepth 65536 in
theorem w_rest : rest_1_c.before args0 about1 = true := by decide +kernel
set_option maxRecDepth 65536 in
theorem w_case : (Jvm.Cond.and given_1 narrow_1).before args0 about1 = true := by decide +kernel
set_option maxRecDepth 65536 in
theorem w_consts : constsHeld consts_1 about1 := Jvm.Lit.constsHeldB_iff.mp (by decide +kernel)
theorem w_applies : (headSpec (Jvm.Cond.code x code maxLocals ret :: tables_1) room_1).applies x e0.platform about1 = true :=
  (Spec.applies_iff w_frames).mpr ⟨w_running, w_runnable, w_alone, w_named, w_hears, w_ripe, w_room, w_tables⟩
theorem atStart : AtStart classFile x code maxLocals ret World_1 tables_1 room_1 Calls_1 rest_1 Pre_1 launch0 p0 e0 about1 theMethod args0 below0 :=
  ⟨lists_1, trivial, launch0.admits_env _ _ _, launch0.least_env, fairChoices_fair.cas, fairChoices_fair.clock, w_frames, w_args, w_heap, w_applies, ⟨⟨0, k0, 2, by decide +kernel, rfl, rfl, _, rfl, rfl⟩, ⟨w_consts, trivial⟩⟩, w_rest, w_case⟩
end start1
theorem witness_1 : WitnessClaimed_1 := ⟨start1.p0, start1.e0, start1.about1, start1.theMethod, start1.args0, start1.below0, start1.atStart⟩
end Jvm.Pilot.@@N@@
