import JvmDerived
import JvmDerived.Pilot.@@N@@Statement
import JvmDerived.Pilot.@@N@@Code
set_option linter.unusedVariables false
set_option linter.unusedSimpArgs false
namespace Jvm.RoadKit
open Sem ClassFile Op Lib Jvm.Stand Jvm.Free Jvm.LawKit
section New
variable {p : Program} {l : Launch} {e : Env} {R : Room} {s : State} {m : MethodId} {args : Array Value} {below : List Frame} {meth : Method} {c : Code} {T : State} {locs : List Loc} {cells slots : Nat}
theorem retI (X : Stand p l e R s m args below meth c T locs cells slots) (hx : p.tables.exec = Jvm.exec) {pc : Nat} {Ls : Array Slot} {z : Int32} {rest : List Value} (hret : meth.sig.returnType = some .int) (hd : decode c.code pc = .ok (.ireturn, 1)) {fs : List Frame}
    (hl : ∀ (f : JFrame) (acts : List Action), f.method = m → f.locked = none → f.entered = [] → (doReturn e (T.setTop f) acts (some (.int z))).1 = T.setFrames fs) : Steps p.tables e below (T.setTop (mkF m pc Ls (.int z :: rest))) (T.setFrames fs) := by
  have hm' : T.vm.method? m = some meth := X.method'
  have hn : narrow .int (.int z) = .int z := rfl
  show Steps p.tables e below (T.setTop { method := m, pc := pc, locals := Ls, stack := _ :: rest, locked := none }) _
  jvm_step X.here [X.here.top, hx, hd, hm', hret, hn]
  first | (intro acts; rw [hl _ acts rfl rfl rfl]) | rw [hl _ _ rfl rfl rfl]
  exact Steps.refl _
theorem retJ (X : Stand p l e R s m args below meth c T locs cells slots) (hx : p.tables.exec = Jvm.exec) {pc : Nat} {Ls : Array Slot} {z : Int64} {rest : List Value} (hret : meth.sig.returnType = some .long) (hd : decode c.code pc = .ok (.lreturn, 1)) {fs : List Frame}
    (hl : ∀ (f : JFrame) (acts : List Action), f.method = m → f.locked = none → f.entered = [] → (doReturn e (T.setTop f) acts (some (.long z))).1 = T.setFrames fs) : Steps p.tables e below (T.setTop (mkF m pc Ls (.long z :: rest))) (T.setFrames fs) := by
  have hm' : T.vm.method? m = some meth := X.method'
  have hn : narrow .long (.long z) = .long z := rfl
  show Steps p.tables e below (T.setTop { method := m, pc := pc, locals := Ls, stack := _ :: rest, locked := none }) _
  jvm_step X.here [X.here.top, hx, hd, hm', hret, hn]
  first | (intro acts; rw [hl _ acts rfl rfl rfl]) | rw [hl _ _ rfl rfl rfl]
  exact Steps.refl _
end New
end Jvm.RoadKit
namespace Jvm.Pilot.@@N@@
open Jvm Jvm.ClassFile Sem Op Lib Jvm.Free Jvm.Stand Jvm.LawKit Jvm.RoadKit Bundle Jvm.Pilot.@@N@@.Jvm.D
section Own
variable {p : Program} {l : Launch} {e : Env} {R : Room} {s : State} {m : MethodId} {args : Array Value} {below : List Frame} {meth : Method} {c : Code} {T : State} {locs : List Loc} {cells slots : Nat} {Q : Option Value → Heap → List Loc → Prop} {kc ks : Nat}
/-- from this frame the walk goes to its end, with Q -/
def OG (p : Program) (e : Env) (below : List Frame) (s : State) (Q : Option Value → Heap → List Loc → Prop) (kc ks : Nat) (T : State) (g : JFrame) : Prop :=
  ∃ s₂ o, Steps p.tables e below (T.setTop g) s₂ ∧ s₂.status = .running ∧ Ended s₂ below o ∧ ∃ v L, o = .returned v ∧ Q v s₂.heap L ∧ FrameEnd s o s₂ L kc ks
theorem OG.step {T' : State} {g g' : JFrame} (st : ∀ t, Steps p.tables e below (T'.setTop g') t → Steps p.tables e below (T.setTop g) t) (h : OG p e below s Q kc ks T' g') : OG p e below s Q kc ks T g := by
  obtain ⟨s₂, o, h1, h2⟩ := h
  exact ⟨s₂, o, st _ h1, h2⟩
theorem OG.cast {g g' : JFrame} (q : g = g') (h : OG p e below s Q kc ks T g') : OG p e below s Q kc ks T g := q ▸ h
theorem OG.mono {Q' : Option Value → Heap → List Loc → Prop} {g : JFrame} (hq : ∀ v h L, Q v h L → Q' v h L) (h : OG p e below s Q kc ks T g) : OG p e below s Q' kc ks T g := by
  obtain ⟨s₂, o, h1, h2, h3, v, L, h4, h5, h6⟩ := h
  exact ⟨s₂, o, h1, h2, h3, v, L, h4, hq _ _ _ h5, h6⟩
theorem o_iadd (X : Stand p l e R s m args below meth c T locs cells slots) (hx : p.tables.exec = Jvm.exec) {pc pc' : Nat} {Ls : Array Slot} {x y : Int32} {rest : List Value} (hd : decode c.code pc = .ok (.iadd, 1)) (hp : pc + 1 = pc') (h : OG p e below s Q kc ks T (mkF m pc' Ls (.int (x + y) :: rest))) : OG p e below s Q kc ks T (mkF m pc Ls (.int y :: .int x :: rest)) := by
  subst hp; exact OG.step (fun t q => XS.iadd X.here hx rfl hd rfl q) h
theorem o_isub (X : Stand p l e R s m args below meth c T locs cells slots) (hx : p.tables.exec = Jvm.exec) {pc pc' : Nat} {Ls : Array Slot} {x y : Int32} {rest : List Value} (hd : decode c.code pc = .ok (.isub, 1)) (hp : pc + 1 = pc') (h : OG p e below s Q kc ks T (mkF m pc' Ls (.int (x - y) :: rest))) : OG p e below s Q kc ks T (mkF m pc Ls (.int y :: .int x :: rest)) := by
  subst hp; exact OG.step (fun t q => XS.isub X.here hx rfl hd rfl q) h
theorem o_imul (X : Stand p l e R s m args below meth c T locs cells slots) (hx : p.tables.exec = Jvm.exec) {pc pc' : Nat} {Ls : Array Slot} {x y : Int32} {rest : List Value} (hd : decode c.code pc = .ok (.imul, 1)) (hp : pc + 1 = pc') (h : OG p e below s Q kc ks T (mkF m pc' Ls (.int (x * y) :: rest))) : OG p e below s Q kc ks T (mkF m pc Ls (.int y :: .int x :: rest)) := by
  subst hp; exact OG.step (fun t q => XS.imul X.here hx rfl hd rfl q) h
theorem o_iand (X : Stand p l e R s m args below meth c T locs cells slots) (hx : p.tables.exec = Jvm.exec) {pc pc' : Nat} {Ls : Array Slot} {x y : Int32} {rest : List Value} (hd : decode c.code pc = .ok (.iand, 1)) (hp : pc + 1 = pc') (h : OG p e below s Q kc ks T (mkF m pc' Ls (.int (x &&& y) :: rest))) : OG p e below s Q kc ks T (mkF m pc Ls (.int y :: .int x :: rest)) := by
  subst hp; exact OG.step (fun t q => XS.iand X.here hx rfl hd rfl q) h
theorem o_ior (X : Stand p l e R s m args below meth c T locs cells slots) (hx : p.tables.exec = Jvm.exec) {pc pc' : Nat} {Ls : Array Slot} {x y : Int32} {rest : List Value} (hd : decode c.code pc = .ok (.ior, 1)) (hp : pc + 1 = pc') (h : OG p e below s Q kc ks T (mkF m pc' Ls (.int (x ||| y) :: rest))) : OG p e below s Q kc ks T (mkF m pc Ls (.int y :: .int x :: rest)) := by
  subst hp; exact OG.step (fun t q => XS.ior X.here hx rfl hd rfl q) h
theorem o_ixor (X : Stand p l e R s m args below meth c T locs cells slots) (hx : p.tables.exec = Jvm.exec) {pc pc' : Nat} {Ls : Array Slot} {x y : Int32} {rest : List Value} (hd : decode c.code pc = .ok (.ixor, 1)) (hp : pc + 1 = pc') (h : OG p e below s Q kc ks T (mkF m pc' Ls (.int (x ^^^ y) :: rest))) : OG p e below s Q kc ks T (mkF m pc Ls (.int y :: .int x :: rest)) := by
  subst hp; exact OG.step (fun t q => XS.ixor X.here hx rfl hd rfl q) h
theorem o_ladd (X : Stand p l e R s m args below meth c T locs cells slots) (hx : p.tables.exec = Jvm.exec) {pc pc' : Nat} {Ls : Array Slot} {x y : Int64} {rest : List Value} (hd : decode c.code pc = .ok (.ladd, 1)) (hp : pc + 1 = pc') (h : OG p e below s Q kc ks T (mkF m pc' Ls (.long (x + y) :: rest))) : OG p e below s Q kc ks T (mkF m pc Ls (.long y :: .long x :: rest)) := by
  subst hp; exact OG.step (fun t q => XS.ladd X.here hx rfl hd rfl q) h
theorem o_lsub (X : Stand p l e R s m args below meth c T locs cells slots) (hx : p.tables.exec = Jvm.exec) {pc pc' : Nat} {Ls : Array Slot} {x y : Int64} {rest : List Value} (hd : decode c.code pc = .ok (.lsub, 1)) (hp : pc + 1 = pc') (h : OG p e below s Q kc ks T (mkF m pc' Ls (.long (x - y) :: rest))) : OG p e below s Q kc ks T (mkF m pc Ls (.long y :: .long x :: rest)) := by
  subst hp; exact OG.step (fun t q => XS.lsub X.here hx rfl hd rfl q) h
theorem o_lmul (X : Stand p l e R s m args below meth c T locs cells slots) (hx : p.tables.exec = Jvm.exec) {pc pc' : Nat} {Ls : Array Slot} {x y : Int64} {rest : List Value} (hd : decode c.code pc = .ok (.lmul, 1)) (hp : pc + 1 = pc') (h : OG p e below s Q kc ks T (mkF m pc' Ls (.long (x * y) :: rest))) : OG p e below s Q kc ks T (mkF m pc Ls (.long y :: .long x :: rest)) := by
  subst hp; exact OG.step (fun t q => XS.lmul X.here hx rfl hd rfl q) h
theorem o_land (X : Stand p l e R s m args below meth c T locs cells slots) (hx : p.tables.exec = Jvm.exec) {pc pc' : Nat} {Ls : Array Slot} {x y : Int64} {rest : List Value} (hd : decode c.code pc = .ok (.land, 1)) (hp : pc + 1 = pc') (h : OG p e below s Q kc ks T (mkF m pc' Ls (.long (x &&& y) :: rest))) : OG p e below s Q kc ks T (mkF m pc Ls (.long y :: .long x :: rest)) := by
  subst hp; exact OG.step (fun t q => XS.land X.here hx rfl hd rfl q) h
theorem o_lor (X : Stand p l e R s m args below meth c T locs cells slots) (hx : p.tables.exec = Jvm.exec) {pc pc' : Nat} {Ls : Array Slot} {x y : Int64} {rest : List Value} (hd : decode c.code pc = .ok (.lor, 1)) (hp : pc + 1 = pc') (h : OG p e below s Q kc ks T (mkF m pc' Ls (.long (x ||| y) :: rest))) : OG p e below s Q kc ks T (mkF m pc Ls (.long y :: .long x :: rest)) := by
  subst hp; exact OG.step (fun t q => XS.lor X.here hx rfl hd rfl q) h
theorem o_lxor (X : Stand p l e R s m args below meth c T locs cells slots) (hx : p.tables.exec = Jvm.exec) {pc pc' : Nat} {Ls : Array Slot} {x y : Int64} {rest : List Value} (hd : decode c.code pc = .ok (.lxor, 1)) (hp : pc + 1 = pc') (h : OG p e below s Q kc ks T (mkF m pc' Ls (.long (x ^^^ y) :: rest))) : OG p e below s Q kc ks T (mkF m pc Ls (.long y :: .long x :: rest)) := by
  subst hp; exact OG.step (fun t q => XS.lxor X.here hx rfl hd rfl q) h
theorem o_ishl (X : Stand p l e R s m args below meth c T locs cells slots) (hx : p.tables.exec = Jvm.exec) {pc pc' : Nat} {Ls : Array Slot} {x y : Int32} {rest : List Value} (hd : decode c.code pc = .ok (.ishl, 1)) (hp : pc + 1 = pc') (h : OG p e below s Q kc ks T (mkF m pc' Ls (.int (x <<< (y &&& 31)) :: rest))) : OG p e below s Q kc ks T (mkF m pc Ls (.int y :: .int x :: rest)) := by
  subst hp; exact OG.step (fun t q => XS.ishl X.here hx rfl hd rfl q) h
theorem o_ishr (X : Stand p l e R s m args below meth c T locs cells slots) (hx : p.tables.exec = Jvm.exec) {pc pc' : Nat} {Ls : Array Slot} {x y : Int32} {rest : List Value} (hd : decode c.code pc = .ok (.ishr, 1)) (hp : pc + 1 = pc') (h : OG p e below s Q kc ks T (mkF m pc' Ls (.int (x >>> (y &&& 31)) :: rest))) : OG p e below s Q kc ks T (mkF m pc Ls (.int y :: .int x :: rest)) := by
  subst hp; exact OG.step (fun t q => XS.ishr X.here hx rfl hd rfl q) h
theorem o_iushr (X : Stand p l e R s m args below meth c T locs cells slots) (hx : p.tables.exec = Jvm.exec) {pc pc' : Nat} {Ls : Array Slot} {x y : Int32} {rest : List Value} (hd : decode c.code pc = .ok (.iushr, 1)) (hp : pc + 1 = pc') (h : OG p e below s Q kc ks T (mkF m pc' Ls (.int ((x.toUInt32 >>> (y &&& 31).toUInt32).toInt32) :: rest))) : OG p e below s Q kc ks T (mkF m pc Ls (.int y :: .int x :: rest)) := by
  subst hp; exact OG.step (fun t q => XS.iushr X.here hx rfl hd rfl q) h
theorem o_lshl (X : Stand p l e R s m args below meth c T locs cells slots) (hx : p.tables.exec = Jvm.exec) {pc pc' : Nat} {Ls : Array Slot} {x : Int64} {y : Int32} {rest : List Value} (hd : decode c.code pc = .ok (.lshl, 1)) (hp : pc + 1 = pc') (h : OG p e below s Q kc ks T (mkF m pc' Ls (.long (x <<< (y &&& 0x3f).toInt64) :: rest))) : OG p e below s Q kc ks T (mkF m pc Ls (.int y :: .long x :: rest)) := by
  subst hp; exact OG.step (fun t q => XS.lshl X.here hx rfl hd rfl q) h
theorem o_lshr (X : Stand p l e R s m args below meth c T locs cells slots) (hx : p.tables.exec = Jvm.exec) {pc pc' : Nat} {Ls : Array Slot} {x : Int64} {y : Int32} {rest : List Value} (hd : decode c.code pc = .ok (.lshr, 1)) (hp : pc + 1 = pc') (h : OG p e below s Q kc ks T (mkF m pc' Ls (.long (x >>> (y &&& 0x3f).toInt64) :: rest))) : OG p e below s Q kc ks T (mkF m pc Ls (.int y :: .long x :: rest)) := by
  subst hp; exact OG.step (fun t q => XS.lshr X.here hx rfl hd rfl q) h
theorem o_lushr (X : Stand p l e R s m args below meth c T locs cells slots) (hx : p.tables.exec = Jvm.exec) {pc pc' : Nat} {Ls : Array Slot} {x : Int64} {y : Int32} {rest : List Value} (hd : decode c.code pc = .ok (.lushr, 1)) (hp : pc + 1 = pc') (h : OG p e below s Q kc ks T (mkF m pc' Ls (.long ((x.toUInt64 >>> (y &&& 0x3f).toInt64.toUInt64).toInt64) :: rest))) : OG p e below s Q kc ks T (mkF m pc Ls (.int y :: .long x :: rest)) := by
  subst hp; exact OG.step (fun t q => XS.lushr X.here hx rfl hd rfl q) h
theorem o_idiv (X : Stand p l e R s m args below meth c T locs cells slots) (hx : p.tables.exec = Jvm.exec) {pc pc' : Nat} {Ls : Array Slot} {x y : Int32} {rest : List Value} (hd : decode c.code pc = .ok (.idiv, 1)) (hy : y ≠ 0) (hp : pc + 1 = pc') (h : OG p e below s Q kc ks T (mkF m pc' Ls (.int (x / y) :: rest))) : OG p e below s Q kc ks T (mkF m pc Ls (.int y :: .int x :: rest)) := by
  subst hp; exact OG.step (fun t q => XS.idiv X.here hx rfl hd rfl hy q) h
theorem o_ldiv (X : Stand p l e R s m args below meth c T locs cells slots) (hx : p.tables.exec = Jvm.exec) {pc pc' : Nat} {Ls : Array Slot} {x y : Int64} {rest : List Value} (hd : decode c.code pc = .ok (.ldiv, 1)) (hy : y ≠ 0) (hp : pc + 1 = pc') (h : OG p e below s Q kc ks T (mkF m pc' Ls (.long (x / y) :: rest))) : OG p e below s Q kc ks T (mkF m pc Ls (.long y :: .long x :: rest)) := by
  subst hp; exact OG.step (fun t q => XS.ldiv X.here hx rfl hd rfl hy q) h
theorem o_irem (X : Stand p l e R s m args below meth c T locs cells slots) (hx : p.tables.exec = Jvm.exec) {pc pc' : Nat} {Ls : Array Slot} {x y : Int32} {rest : List Value} (hd : decode c.code pc = .ok (.irem, 1)) (hy : y ≠ 0) (hp : pc + 1 = pc') (h : OG p e below s Q kc ks T (mkF m pc' Ls (.int (x % y) :: rest))) : OG p e below s Q kc ks T (mkF m pc Ls (.int y :: .int x :: rest)) := by
  subst hp; exact OG.step (fun t q => iremM X hx rfl hd rfl hy q) h
theorem o_lrem (X : Stand p l e R s m args below meth c T locs cells slots) (hx : p.tables.exec = Jvm.exec) {pc pc' : Nat} {Ls : Array Slot} {x y : Int64} {rest : List Value} (hd : decode c.code pc = .ok (.lrem, 1)) (hy : y ≠ 0) (hp : pc + 1 = pc') (h : OG p e below s Q kc ks T (mkF m pc' Ls (.long (x % y) :: rest))) : OG p e below s Q kc ks T (mkF m pc Ls (.long y :: .long x :: rest)) := by
  subst hp; rw [← lrem_mod] at h; exact OG.step (fun t q => XS.lrem X.here hx rfl hd rfl hy q) h
theorem o_ineg (X : Stand p l e R s m args below meth c T locs cells slots) (hx : p.tables.exec = Jvm.exec) {pc pc' : Nat} {Ls : Array Slot} {x : Int32} {rest : List Value} (hd : decode c.code pc = .ok (.ineg, 1)) (hp : pc + 1 = pc') (h : OG p e below s Q kc ks T (mkF m pc' Ls (.int ((-x)) :: rest))) : OG p e below s Q kc ks T (mkF m pc Ls (.int x :: rest)) := by
  subst hp; exact OG.step (fun t q => XS.ineg X.here hx rfl hd rfl q) h
theorem o_lneg (X : Stand p l e R s m args below meth c T locs cells slots) (hx : p.tables.exec = Jvm.exec) {pc pc' : Nat} {Ls : Array Slot} {x : Int64} {rest : List Value} (hd : decode c.code pc = .ok (.lneg, 1)) (hp : pc + 1 = pc') (h : OG p e below s Q kc ks T (mkF m pc' Ls (.long ((-x)) :: rest))) : OG p e below s Q kc ks T (mkF m pc Ls (.long x :: rest)) := by
  subst hp; exact OG.step (fun t q => XS.lneg X.here hx rfl hd rfl q) h
theorem o_i2l (X : Stand p l e R s m args below meth c T locs cells slots) (hx : p.tables.exec = Jvm.exec) {pc pc' : Nat} {Ls : Array Slot} {x : Int32} {rest : List Value} (hd : decode c.code pc = .ok (.i2l, 1)) (hp : pc + 1 = pc') (h : OG p e below s Q kc ks T (mkF m pc' Ls (.long (x.toInt64) :: rest))) : OG p e below s Q kc ks T (mkF m pc Ls (.int x :: rest)) := by
  subst hp; exact OG.step (fun t q => XS.i2l X.here hx rfl hd rfl q) h
theorem o_l2i (X : Stand p l e R s m args below meth c T locs cells slots) (hx : p.tables.exec = Jvm.exec) {pc pc' : Nat} {Ls : Array Slot} {x : Int64} {rest : List Value} (hd : decode c.code pc = .ok (.l2i, 1)) (hp : pc + 1 = pc') (h : OG p e below s Q kc ks T (mkF m pc' Ls (.int (x.toInt32) :: rest))) : OG p e below s Q kc ks T (mkF m pc Ls (.long x :: rest)) := by
  subst hp; exact OG.step (fun t q => XS.l2i X.here hx rfl hd rfl q) h
theorem o_i2b (X : Stand p l e R s m args below meth c T locs cells slots) (hx : p.tables.exec = Jvm.exec) {pc pc' : Nat} {Ls : Array Slot} {x : Int32} {rest : List Value} (hd : decode c.code pc = .ok (.i2b, 1)) (hp : pc + 1 = pc') (h : OG p e below s Q kc ks T (mkF m pc' Ls (.int (x.toInt8.toInt32) :: rest))) : OG p e below s Q kc ks T (mkF m pc Ls (.int x :: rest)) := by
  subst hp; exact OG.step (fun t q => XS.i2b X.here hx rfl hd rfl q) h
theorem o_i2c (X : Stand p l e R s m args below meth c T locs cells slots) (hx : p.tables.exec = Jvm.exec) {pc pc' : Nat} {Ls : Array Slot} {x : Int32} {rest : List Value} (hd : decode c.code pc = .ok (.i2c, 1)) (hp : pc + 1 = pc') (h : OG p e below s Q kc ks T (mkF m pc' Ls (.int (x.toUInt32.toUInt16.toUInt32.toInt32) :: rest))) : OG p e below s Q kc ks T (mkF m pc Ls (.int x :: rest)) := by
  subst hp; exact OG.step (fun t q => XS.i2c X.here hx rfl hd rfl q) h
theorem o_i2s (X : Stand p l e R s m args below meth c T locs cells slots) (hx : p.tables.exec = Jvm.exec) {pc pc' : Nat} {Ls : Array Slot} {x : Int32} {rest : List Value} (hd : decode c.code pc = .ok (.i2s, 1)) (hp : pc + 1 = pc') (h : OG p e below s Q kc ks T (mkF m pc' Ls (.int (x.toInt16.toInt32) :: rest))) : OG p e below s Q kc ks T (mkF m pc Ls (.int x :: rest)) := by
  subst hp; exact OG.step (fun t q => XS.i2s X.here hx rfl hd rfl q) h
theorem o_lcmp (X : Stand p l e R s m args below meth c T locs cells slots) (hx : p.tables.exec = Jvm.exec) {pc pc' : Nat} {Ls : Array Slot} {x y : Int64} {rest : List Value} (hd : decode c.code pc = .ok (.lcmp, 1)) (hp : pc + 1 = pc') (h : OG p e below s Q kc ks T (mkF m pc' Ls (.int (lcmpW x y) :: rest))) : OG p e below s Q kc ks T (mkF m pc Ls (.long y :: .long x :: rest)) := by
  subst hp; exact OG.step (fun t q => XS.lcmp X.here hx rfl hd rfl q) h
theorem o_iconst (X : Stand p l e R s m args below meth c T locs cells slots) (hx : p.tables.exec = Jvm.exec) {pc pc' : Nat} {Ls : Array Slot} {i : Int} {rest : List Value} (hd : decode c.code pc = .ok (.iconst i, 1)) (w : Int32) (hv : Int32.ofInt i = w) (hp : pc + 1 = pc') (h : OG p e below s Q kc ks T (mkF m pc' Ls (.int w :: rest))) : OG p e below s Q kc ks T (mkF m pc Ls (rest)) := by
  subst hp hv; exact OG.step (fun t q => XS.iconst X.here hx rfl hd q) h
theorem o_bipush (X : Stand p l e R s m args below meth c T locs cells slots) (hx : p.tables.exec = Jvm.exec) {pc pc' : Nat} {Ls : Array Slot} {i : Int} {rest : List Value} (hd : decode c.code pc = .ok (.bipush i, 2)) (w : Int32) (hv : (Int8.ofInt i).toInt32 = w) (hp : pc + 2 = pc') (h : OG p e below s Q kc ks T (mkF m pc' Ls (.int w :: rest))) : OG p e below s Q kc ks T (mkF m pc Ls (rest)) := by
  subst hp hv; exact OG.step (fun t q => XS.bipush X.here hx rfl hd q) h
theorem o_sipush (X : Stand p l e R s m args below meth c T locs cells slots) (hx : p.tables.exec = Jvm.exec) {pc pc' : Nat} {Ls : Array Slot} {i : Int} {rest : List Value} (hd : decode c.code pc = .ok (.sipush i, 3)) (w : Int32) (hv : (Int16.ofInt i).toInt32 = w) (hp : pc + 3 = pc') (h : OG p e below s Q kc ks T (mkF m pc' Ls (.int w :: rest))) : OG p e below s Q kc ks T (mkF m pc Ls (rest)) := by
  subst hp hv; exact OG.step (fun t q => XS.sipush X.here hx rfl hd q) h
theorem o_lconst (X : Stand p l e R s m args below meth c T locs cells slots) (hx : p.tables.exec = Jvm.exec) {pc pc' : Nat} {Ls : Array Slot} {i : Fin 2} {rest : List Value} (hd : decode c.code pc = .ok (.lconst i, 1)) (w : Int64) (hv : Int64.ofNat i = w) (hp : pc + 1 = pc') (h : OG p e below s Q kc ks T (mkF m pc' Ls (.long w :: rest))) : OG p e below s Q kc ks T (mkF m pc Ls (rest)) := by
  subst hp hv; exact OG.step (fun t q => XS.lconst X.here hx rfl hd q) h
theorem o_aconst_null (X : Stand p l e R s m args below meth c T locs cells slots) (hx : p.tables.exec = Jvm.exec) {pc pc' : Nat} {Ls : Array Slot} {rest : List Value} (hd : decode c.code pc = .ok (.aconst_null, 1)) (hp : pc + 1 = pc') (h : OG p e below s Q kc ks T (mkF m pc' Ls (.null :: rest))) : OG p e below s Q kc ks T (mkF m pc Ls (rest)) := by
  subst hp; exact OG.step (fun t q => XS.aconstNull X.here hx rfl hd q) h
theorem o_iload_n (X : Stand p l e R s m args below meth c T locs cells slots) (hx : p.tables.exec = Jvm.exec) {pc pc' : Nat} {Ls : Array Slot} {i : Fin 4} {x : Int32} {rest : List Value} (hd : decode c.code pc = .ok (.iload_n i, 1)) (hl : Ls[i.val]? = some (.val (.int x))) (hp : pc + 1 = pc') (h : OG p e below s Q kc ks T (mkF m pc' Ls (.int x :: rest))) : OG p e below s Q kc ks T (mkF m pc Ls (rest)) := by
  subst hp; exact OG.step (fun t q => XS.iloadN X.here hx rfl hd hl q) h
theorem o_iload (X : Stand p l e R s m args below meth c T locs cells slots) (hx : p.tables.exec = Jvm.exec) {pc pc' : Nat} {Ls : Array Slot} {i : Nat} {x : Int32} {rest : List Value} (hd : decode c.code pc = .ok (.iload i, 2)) (hl : Ls[i]? = some (.val (.int x))) (hp : pc + 2 = pc') (h : OG p e below s Q kc ks T (mkF m pc' Ls (.int x :: rest))) : OG p e below s Q kc ks T (mkF m pc Ls (rest)) := by
  subst hp; exact OG.step (fun t q => XS.iload X.here hx rfl hd hl q) h
theorem o_lload_n (X : Stand p l e R s m args below meth c T locs cells slots) (hx : p.tables.exec = Jvm.exec) {pc pc' : Nat} {Ls : Array Slot} {i : Fin 4} {x : Int64} {rest : List Value} (hd : decode c.code pc = .ok (.lload_n i, 1)) (hl : Ls[i.val]? = some (.val (.long x))) (hp : pc + 1 = pc') (h : OG p e below s Q kc ks T (mkF m pc' Ls (.long x :: rest))) : OG p e below s Q kc ks T (mkF m pc Ls (rest)) := by
  subst hp; exact OG.step (fun t q => XS.lloadN X.here hx rfl hd hl q) h
theorem o_lload (X : Stand p l e R s m args below meth c T locs cells slots) (hx : p.tables.exec = Jvm.exec) {pc pc' : Nat} {Ls : Array Slot} {i : Nat} {x : Int64} {rest : List Value} (hd : decode c.code pc = .ok (.lload i, 2)) (hl : Ls[i]? = some (.val (.long x))) (hp : pc + 2 = pc') (h : OG p e below s Q kc ks T (mkF m pc' Ls (.long x :: rest))) : OG p e below s Q kc ks T (mkF m pc Ls (rest)) := by
  subst hp; exact OG.step (fun t q => XS.lload X.here hx rfl hd hl q) h
theorem o_aload_n (X : Stand p l e R s m args below meth c T locs cells slots) (hx : p.tables.exec = Jvm.exec) {pc pc' : Nat} {Ls : Array Slot} {i : Fin 4} {x : Value} {rest : List Value} (hd : decode c.code pc = .ok (.aload_n i, 1)) (hl : Ls[i.val]? = some (.val x)) (hv : x.isRef = true) (hp : pc + 1 = pc') (h : OG p e below s Q kc ks T (mkF m pc' Ls (x :: rest))) : OG p e below s Q kc ks T (mkF m pc Ls (rest)) := by
  subst hp; exact OG.step (fun t q => XS.aloadN X.here hx rfl hd hl hv q) h
theorem o_aload (X : Stand p l e R s m args below meth c T locs cells slots) (hx : p.tables.exec = Jvm.exec) {pc pc' : Nat} {Ls : Array Slot} {i : Nat} {x : Value} {rest : List Value} (hd : decode c.code pc = .ok (.aload i, 2)) (hl : Ls[i]? = some (.val x)) (hv : x.isRef = true) (hp : pc + 2 = pc') (h : OG p e below s Q kc ks T (mkF m pc' Ls (x :: rest))) : OG p e below s Q kc ks T (mkF m pc Ls (rest)) := by
  subst hp; exact OG.step (fun t q => XS.aload X.here hx rfl hd hl hv q) h
theorem o_istore_n (X : Stand p l e R s m args below meth c T locs cells slots) (hx : p.tables.exec = Jvm.exec) {pc pc' : Nat} {Ls : Array Slot} {i : Fin 4} {x : Int32} {rest : List Value} (hd : decode c.code pc = .ok (.istore_n i, 1)) (l' : Array Slot) (hl : storeLocals Ls i.val (.int x) = some l') (hp : pc + 1 = pc') (h : OG p e below s Q kc ks T (mkF m pc' l' (rest))) : OG p e below s Q kc ks T (mkF m pc Ls (.int x :: rest)) := by
  subst hp; exact OG.step (fun t q => XS.istoreN X.here hx rfl hd rfl hl q) h
theorem o_istore (X : Stand p l e R s m args below meth c T locs cells slots) (hx : p.tables.exec = Jvm.exec) {pc pc' : Nat} {Ls : Array Slot} {i : Nat} {x : Int32} {rest : List Value} (hd : decode c.code pc = .ok (.istore i, 2)) (l' : Array Slot) (hl : storeLocals Ls i (.int x) = some l') (hp : pc + 2 = pc') (h : OG p e below s Q kc ks T (mkF m pc' l' (rest))) : OG p e below s Q kc ks T (mkF m pc Ls (.int x :: rest)) := by
  subst hp; exact OG.step (fun t q => XS.istore X.here hx rfl hd rfl hl q) h
theorem o_lstore_n (X : Stand p l e R s m args below meth c T locs cells slots) (hx : p.tables.exec = Jvm.exec) {pc pc' : Nat} {Ls : Array Slot} {i : Fin 4} {x : Int64} {rest : List Value} (hd : decode c.code pc = .ok (.lstore_n i, 1)) (l' : Array Slot) (hl : storeLocals Ls i.val (.long x) = some l') (hp : pc + 1 = pc') (h : OG p e below s Q kc ks T (mkF m pc' l' (rest))) : OG p e below s Q kc ks T (mkF m pc Ls (.long x :: rest)) := by
  subst hp; exact OG.step (fun t q => XS.lstoreN X.here hx rfl hd rfl hl q) h
theorem o_lstore (X : Stand p l e R s m args below meth c T locs cells slots) (hx : p.tables.exec = Jvm.exec) {pc pc' : Nat} {Ls : Array Slot} {i : Nat} {x : Int64} {rest : List Value} (hd : decode c.code pc = .ok (.lstore i, 2)) (l' : Array Slot) (hl : storeLocals Ls i (.long x) = some l') (hp : pc + 2 = pc') (h : OG p e below s Q kc ks T (mkF m pc' l' (rest))) : OG p e below s Q kc ks T (mkF m pc Ls (.long x :: rest)) := by
  subst hp; exact OG.step (fun t q => XS.lstore X.here hx rfl hd rfl hl q) h
theorem o_astore_n (X : Stand p l e R s m args below meth c T locs cells slots) (hx : p.tables.exec = Jvm.exec) {pc pc' : Nat} {Ls : Array Slot} {i : Fin 4} {x : Value} {rest : List Value} (hd : decode c.code pc = .ok (.astore_n i, 1)) (hv : x.isRef = true) (l' : Array Slot) (hl : storeLocals Ls i.val x = some l') (hp : pc + 1 = pc') (h : OG p e below s Q kc ks T (mkF m pc' l' (rest))) : OG p e below s Q kc ks T (mkF m pc Ls (x :: rest)) := by
  subst hp; exact OG.step (fun t q => XS.astoreN X.here hx rfl hd rfl hv hl q) h
theorem o_astore (X : Stand p l e R s m args below meth c T locs cells slots) (hx : p.tables.exec = Jvm.exec) {pc pc' : Nat} {Ls : Array Slot} {i : Nat} {x : Value} {rest : List Value} (hd : decode c.code pc = .ok (.astore i, 2)) (hv : x.isRef = true) (l' : Array Slot) (hl : storeLocals Ls i x = some l') (hp : pc + 2 = pc') (h : OG p e below s Q kc ks T (mkF m pc' l' (rest))) : OG p e below s Q kc ks T (mkF m pc Ls (x :: rest)) := by
  subst hp; exact OG.step (fun t q => XS.astore X.here hx rfl hd rfl hv hl q) h
theorem o_iinc (X : Stand p l e R s m args below meth c T locs cells slots) (hx : p.tables.exec = Jvm.exec) {pc pc' : Nat} {Ls : Array Slot} {i : Nat} {k : Int} {x : Int32} {rest : List Value} (hd : decode c.code pc = .ok (.iinc i k, 3)) (w : Int32) (hw' : Int32.ofInt k = w) (hl : Ls[i]? = some (.val (.int x))) (l' : Array Slot) (hl' : storeLocals Ls i (.int (x + w)) = some l') (hp : pc + 3 = pc') (h : OG p e below s Q kc ks T (mkF m pc' l' (rest))) : OG p e below s Q kc ks T (mkF m pc Ls (rest)) := by
  subst hp hw'; exact OG.step (fun t q => XS.iinc X.here hx rfl hd hl hl' q) h
theorem o_dup (X : Stand p l e R s m args below meth c T locs cells slots) (hx : p.tables.exec = Jvm.exec) {pc pc' : Nat} {Ls : Array Slot} {x : Value} {rest : List Value} (hd : decode c.code pc = .ok (.dup, 1)) (hc : x.category = 1) (hp : pc + 1 = pc') (h : OG p e below s Q kc ks T (mkF m pc' Ls (x :: x :: rest))) : OG p e below s Q kc ks T (mkF m pc Ls (x :: rest)) := by
  subst hp; exact OG.step (fun t q => XS.dup X.here hx rfl hd rfl hc q) h
theorem o_pop (X : Stand p l e R s m args below meth c T locs cells slots) (hx : p.tables.exec = Jvm.exec) {pc pc' : Nat} {Ls : Array Slot} {x : Value} {rest : List Value} (hd : decode c.code pc = .ok (.pop, 1)) (hc : x.category = 1) (hp : pc + 1 = pc') (h : OG p e below s Q kc ks T (mkF m pc' Ls (rest))) : OG p e below s Q kc ks T (mkF m pc Ls (x :: rest)) := by
  subst hp; exact OG.step (fun t q => XS.pop X.here hx rfl hd rfl hc q) h
theorem o_dup_x1 (X : Stand p l e R s m args below meth c T locs cells slots) (hx : p.tables.exec = Jvm.exec) {pc pc' : Nat} {Ls : Array Slot} {x y : Value} {rest : List Value} (hd : decode c.code pc = .ok (.dup_x1, 1)) (hc : x.category = 1) (hc2 : y.category = 1) (hp : pc + 1 = pc') (h : OG p e below s Q kc ks T (mkF m pc' Ls (x :: y :: x :: rest))) : OG p e below s Q kc ks T (mkF m pc Ls (x :: y :: rest)) := by
  subst hp; exact OG.step (fun t q => XS.dupX1 X.here hx rfl hd rfl hc hc2 q) h
theorem o_goto (X : Stand p l e R s m args below meth c T locs cells slots) (hx : p.tables.exec = Jvm.exec) {pc pc' : Nat} {Ls : Array Slot} {rest : List Value} {o : Int} (hd : decode c.code pc = .ok (.goto o, 3)) (ho : 0 ≤ (pc : Int) + o) (hp : ((pc : Int) + o).toNat = pc') (h : OG p e below s Q kc ks T (mkF m pc' Ls rest)) : OG p e below s Q kc ks T (mkF m pc Ls rest) :=
  OG.step (fun t q => XS.goto X.here hx rfl rfl hd ho hp q) h
theorem o_ifYes (X : Stand p l e R s m args below meth c T locs cells slots) (hx : p.tables.exec = Jvm.exec) {pc pc' : Nat} {Ls : Array Slot} {rest : List Value} {o : Int} {cd : ClassFile.Cond} {x : Int32} (hd : decode c.code pc = .ok (.ifCond cd o, 3)) (hc : ifCond.holds cd x = true) (ho : 0 ≤ (pc : Int) + o) (hp : ((pc : Int) + o).toNat = pc') (h : OG p e below s Q kc ks T (mkF m pc' Ls rest)) : OG p e below s Q kc ks T (mkF m pc Ls (.int x :: rest)) :=
  OG.step (fun t q => XS.ifYes X.here hx rfl rfl hd rfl hc ho hp q) h
theorem o_ifNo (X : Stand p l e R s m args below meth c T locs cells slots) (hx : p.tables.exec = Jvm.exec) {pc pc' : Nat} {Ls : Array Slot} {rest : List Value} {o : Int} {cd : ClassFile.Cond} {x : Int32} (hd : decode c.code pc = .ok (.ifCond cd o, 3)) (hc : ifCond.holds cd x = false) (hp : pc + 3 = pc') (h : OG p e below s Q kc ks T (mkF m pc' Ls rest)) : OG p e below s Q kc ks T (mkF m pc Ls (.int x :: rest)) := by
  subst hp; exact OG.step (fun t q => XS.ifNo X.here hx rfl hd rfl hc q) h
theorem o_icmpYes (X : Stand p l e R s m args below meth c T locs cells slots) (hx : p.tables.exec = Jvm.exec) {pc pc' : Nat} {Ls : Array Slot} {rest : List Value} {o : Int} {cd : ClassFile.Cond} {x y : Int32} (hd : decode c.code pc = .ok (.if_icmp cd o, 3)) (hc : if_icmp.holds cd x y = true) (ho : 0 ≤ (pc : Int) + o) (hp : ((pc : Int) + o).toNat = pc') (h : OG p e below s Q kc ks T (mkF m pc' Ls rest)) : OG p e below s Q kc ks T (mkF m pc Ls (.int y :: .int x :: rest)) :=
  OG.step (fun t q => XS.icmpYes X.here hx rfl rfl hd rfl hc ho hp q) h
theorem o_icmpNo (X : Stand p l e R s m args below meth c T locs cells slots) (hx : p.tables.exec = Jvm.exec) {pc pc' : Nat} {Ls : Array Slot} {rest : List Value} {o : Int} {cd : ClassFile.Cond} {x y : Int32} (hd : decode c.code pc = .ok (.if_icmp cd o, 3)) (hc : if_icmp.holds cd x y = false) (hp : pc + 3 = pc') (h : OG p e below s Q kc ks T (mkF m pc' Ls rest)) : OG p e below s Q kc ks T (mkF m pc Ls (.int y :: .int x :: rest)) := by
  subst hp; exact OG.step (fun t q => XS.icmpNo X.here hx rfl hd rfl hc q) h
theorem o_ifnonnullYes (X : Stand p l e R s m args below meth c T locs cells slots) (hx : p.tables.exec = Jvm.exec) {pc pc' : Nat} {Ls : Array Slot} {rest : List Value} {o : Int} {b : Addr} (hd : decode c.code pc = .ok (.ifnonnull o, 3)) (ho : 0 ≤ (pc : Int) + o) (hp : ((pc : Int) + o).toNat = pc') (h : OG p e below s Q kc ks T (mkF m pc' Ls rest)) : OG p e below s Q kc ks T (mkF m pc Ls (.ref b :: rest)) :=
  OG.step (fun t q => XS.ifnonnullYes X.here hx rfl rfl hd rfl ho hp q) h
theorem o_ifnonnullNo (X : Stand p l e R s m args below meth c T locs cells slots) (hx : p.tables.exec = Jvm.exec) {pc pc' : Nat} {Ls : Array Slot} {rest : List Value} {o : Int} (hd : decode c.code pc = .ok (.ifnonnull o, 3)) (hp : pc + 3 = pc') (h : OG p e below s Q kc ks T (mkF m pc' Ls rest)) : OG p e below s Q kc ks T (mkF m pc Ls (.null :: rest)) := by
  subst hp; exact OG.step (fun t q => XS.ifnonnullNo X.here hx rfl hd rfl q) h
theorem o_ldcInt (X : Stand p l e R s m args below meth c T locs cells slots) (hx : p.tables.exec = Jvm.exec) {pc pc' : Nat} {Ls : Array Slot} {rest : List Value} {Z : State} {a0 : Array Value} {own : String} {i : Nat} {v : Int32} (hZ : Z.Warmed39 s.vm) (hown : s.vm.findClass own = some m.cls) (hd : decode c.code pc = .ok (.ldc i, 2)) (hk : (Cond.constant own i v).before a0 Z = true) (hp : pc + 2 = pc') (h : OG p e below s Q kc ks T (mkF m pc' Ls (.int v :: rest))) : OG p e below s Q kc ks T (mkF m pc Ls rest) := by
  subst hp; exact OG.step (fun t q => X.ldcInt hx hown (mvT hZ hk) (g := mkF m pc Ls rest) rfl hd t q) h
theorem o_ldc2Long (X : Stand p l e R s m args below meth c T locs cells slots) (hx : p.tables.exec = Jvm.exec) {pc pc' : Nat} {Ls : Array Slot} {rest : List Value} {Z : State} {a0 : Array Value} {own : String} {i : Nat} {v : Int64} (hZ : Z.Warmed39 s.vm) (hown : s.vm.findClass own = some m.cls) (hd : decode c.code pc = .ok (.ldc2_w i, 3)) (hk : (Cond.constantLong own i v).before a0 Z = true) (hp : pc + 3 = pc') (h : OG p e below s Q kc ks T (mkF m pc' Ls (.long v :: rest))) : OG p e below s Q kc ks T (mkF m pc Ls rest) := by
  subst hp; exact OG.step (fun t q => X.ldc2Long hx hown (mvT hZ hk) (g := mkF m pc Ls rest) rfl hd t q) h
theorem o_retI (X : Stand p l e R s m args below meth c T locs cells slots) (hx : p.tables.exec = Jvm.exec) (hlk : meth.locks = false) {pc : Nat} {Ls : Array Slot} {rest : List Value} {z : Int32} (hret : meth.sig.returnType = some .int) (hd : decode c.code pc = .ok (.ireturn, 1)) (hQ : Q (some (.int z)) T.heap locs) (h1 : cells ≤ kc) (h2 : slots ≤ ks) : OG p e below s Q kc ks T (mkF m pc Ls (.int z :: rest)) := by
  obtain ⟨fs, hr, hrun, hended, hW, hsame⟩ := X.leave (v := some (.int z)) (fun h => by rw [hret] at h; cases h) hlk
  exact ⟨_, _, retI X hx hret hd hr, hrun, hended, _, _, rfl, hQ, ⟨_, rfl⟩, hW, hsame.mono h1 h2⟩
theorem o_retJ (X : Stand p l e R s m args below meth c T locs cells slots) (hx : p.tables.exec = Jvm.exec) (hlk : meth.locks = false) {pc : Nat} {Ls : Array Slot} {rest : List Value} {z : Int64} (hret : meth.sig.returnType = some .long) (hd : decode c.code pc = .ok (.lreturn, 1)) (hQ : Q (some (.long z)) T.heap locs) (h1 : cells ≤ kc) (h2 : slots ≤ ks) : OG p e below s Q kc ks T (mkF m pc Ls (.long z :: rest)) := by
  obtain ⟨fs, hr, hrun, hended, hW, hsame⟩ := X.leave (v := some (.long z)) (fun h => by rw [hret] at h; cases h) hlk
  exact ⟨_, _, retJ X hx hret hd hr, hrun, hended, _, _, rfl, hQ, ⟨_, rfl⟩, hW, hsame.mono h1 h2⟩
theorem o_retN (X : Stand p l e R s m args below meth c T locs cells slots) (hx : p.tables.exec = Jvm.exec) (hlk : meth.locks = false) {pc : Nat} {Ls : Array Slot} {rest : List Value} {z w : Int32} {t : FieldType} (ht : t = .boolean ∨ t = .byte ∨ t = .char ∨ t = .short) (hret : meth.sig.returnType = some t) (hd : decode c.code pc = .ok (.ireturn, 1)) (hz : nar t z = w) (hQ : Q (some (.int w)) T.heap locs) (h1 : cells ≤ kc) (h2 : slots ≤ ks) : OG p e below s Q kc ks T (mkF m pc Ls (.int z :: rest)) := by
  subst hz
  obtain ⟨fs, hr, hrun, hended, hW, hsame⟩ := X.leave (v := some (.int (nar t z))) (fun h => by rw [hret] at h; cases h) hlk
  exact ⟨_, _, retN X hx hret ht hd hr, hrun, hended, _, _, rfl, hQ, ⟨_, rfl⟩, hW, hsame.mono h1 h2⟩
theorem o_ret (X : Stand p l e R s m args below meth c T locs cells slots) (hx : p.tables.exec = Jvm.exec) (hlk : meth.locks = false) {pc : Nat} {Ls : Array Slot} (hret : meth.sig.returnType = none) (hd : decode c.code pc = .ok (.return_, 1)) (hQ : Q none T.heap locs) (h1 : cells ≤ kc) (h2 : slots ≤ ks) : OG p e below s Q kc ks T (mkF m pc Ls []) := by
  obtain ⟨fs, hr, hrun, hended, hW, hsame⟩ := X.leave (v := none) (fun _ => rfl) hlk
  exact ⟨_, _, X.returnOut hx hret hd hr, hrun, hended, _, _, rfl, hQ, ⟨_, rfl⟩, hW, hsame.mono h1 h2⟩
variable {Z : State} {a0 : Array Value} {h : Heap}
theorem o_callS (X : Stand p l e R s m args below meth c T locs cells slots) (hx : p.tables.exec = Jvm.exec) (hZ : Z.Warmed39 s.vm) {own : String} {index : Nat} {y : MethodName} {bytes : ByteArray} {maxL : Nat} {ret : Option FieldType} {rm : Room} {Qc : Option Value → Heap → List Loc → Prop} {argsL rest st : List Value} {pc pc' : Nat} {Ls : Array Slot} (W : Nat)
    (hown : s.vm.findClass own = some m.cls) (eT : T.heap = h) (hlink : (Cond.methodLink own index y).before a0 Z = true) (hstat : (Cond.static y).before a0 Z = true) (hinit : (Cond.initialized y.cls).before a0 Z = true) (hcode : (Cond.code y bytes maxL ret).before a0 Z = true) (hy : y.cls ≠ "java/lang/invoke/MethodHandle" ∧ y.cls ≠ "java/lang/invoke/VarHandle")
    (hM : MetFree l y (head1 [Cond.code y bytes maxL ret] rm) (fun a U => a = argsL.toArray ∧ Z.Warmed39 U.vm ∧ U.heap = h) (fun _ _ _ _ _ => True) (fun _ U o U' => ∃ v L, o = .returned v ∧ Qc v U'.heap L ∧ FrameEnd U o U' L rm.cells rm.slots)) (hf : rm.frames + 1 ≤ R.frames) (hl : W + (maxL + 11) + rm.locals ≤ R.locals)
    (hsize : Ls.size = c.maxLocals) (hlen : ∀ sig, parseMethodDescriptor y.desc = some sig → argsL.length = sig.parameters.length) (hs : st = argsL.reverse ++ rest) (hW : (rest.map fun v => v.category).sum ≤ W) (hd : decode c.code pc = .ok (.invokestatic index, 3)) (hp : pc + 3 = pc') (hc : cells + rm.cells ≤ R.cells) (hsl : slots + rm.slots ≤ R.slots)
    (k : ∀ v T' L, Stand p l e R s m args below meth c T' (locs ++ L) (cells + rm.cells) (slots + rm.slots) → Qc v T'.heap L → OG p e below s Q kc ks T' (mkF m pc' Ls (v.toList ++ rest))) : OG p e below s Q kc ks T (mkF m pc Ls st) := by
  subst hp hs
  obtain ⟨v, vm₁, ⟨T1, L1, c1, n1⟩, -, X1, ⟨Lc, hQ, l1, y1, z1⟩, st⟩ := Jvm.LawKit.callS X hx (y := y) hown (mvT hZ hlink) (mvT hZ hstat) (mvT hZ hinit) (mvT hZ hcode) hy (backOf (W := W) hM hZ hcode hinit hf hl) (g := mkF m pc Ls (argsL.reverse ++ rest)) rfl hsize (argsL := argsL) (rest := rest) hlen rfl (by show 2 * 0 + _ ≤ _; omega) hd (fun _ _ => ⟨rfl, eT, hc, hsl⟩)
  dsimp only [Pt.U, Pt.locs, Pt.cells, Pt.slots] at X1 l1 y1 z1 st hQ
  subst l1 y1 z1
  exact OG.step st (k v T1 Lc X1 hQ)
theorem o_special (X : Stand p l e R s m args below meth c T locs cells slots) (hx : p.tables.exec = Jvm.exec) (hZ : Z.Warmed39 s.vm) {own : String} {index : Nat} {y : MethodName} {bytes : ByteArray} {maxL : Nat} {rm : Room} {Qc : Option Value → Heap → List Loc → Prop} {a : Addr} {argsL rest st : List Value} {pc pc' : Nat} {Ls : Array Slot} (W : Nat) (hy1 : y.name = "<init>")
    (hown : s.vm.findClass own = some m.cls) (eT : T.heap = h) (hlink : (Cond.methodLink own index y).before a0 Z = true) (hinst : (Cond.instanceMethod y).before a0 Z = true) (hinit : (Cond.initialized y.cls).before a0 Z = true) (hcode : (Cond.code y bytes maxL none).before a0 Z = true) (hy : y.cls ≠ "java/lang/invoke/MethodHandle" ∧ y.cls ≠ "java/lang/invoke/VarHandle")
    (hM : MetFree l y (head1 [Cond.code y bytes maxL none] rm) (fun b U => b = (.ref a :: argsL).toArray ∧ Z.Warmed39 U.vm ∧ U.heap = h) (fun _ _ _ _ _ => True) (fun _ U o U' => ∃ v L, o = .returned v ∧ Qc v U'.heap L ∧ FrameEnd U o U' L rm.cells rm.slots)) (hf : rm.frames + 1 ≤ R.frames) (hl : W + (maxL + 11) + rm.locals ≤ R.locals)
    (hsize : Ls.size = c.maxLocals) (hlen : ∀ sig, parseMethodDescriptor y.desc = some sig → argsL.length = sig.parameters.length) (hs : st = argsL.reverse ++ .ref a :: rest) (hW : (rest.map fun v => v.category).sum ≤ W) (hd : decode c.code pc = .ok (.invokespecial index, 3)) (hp : pc + 3 = pc') (hc : cells + rm.cells ≤ R.cells) (hsl : slots + rm.slots ≤ R.slots)
    (k : ∀ v T' L, Stand p l e R s m args below meth c T' (locs ++ L) (cells + rm.cells) (slots + rm.slots) → Qc v T'.heap L → OG p e below s Q kc ks T' (mkF m pc' Ls (v.toList ++ rest))) : OG p e below s Q kc ks T (mkF m pc Ls st) := by
  subst hp hs
  obtain ⟨v, vm₁, ⟨T1, L1, c1, n1⟩, -, X1, ⟨Lc, hQ, l1, y1, z1⟩, st⟩ := X.specialBack hx (y := y) hy1 hown (mvT hZ hlink) (mvT hZ hinst) (mvT hZ hcode) hy (backOf (W := W) hM hZ hcode hinit hf hl) (g := mkF m pc Ls (argsL.reverse ++ .ref a :: rest)) rfl hsize (Steps.refl _) (a := a) (argsL := argsL) (rest := rest) hlen rfl (by show 2 * 0 + _ ≤ _; omega) hd (fun _ _ => ⟨rfl, eT, hc, hsl⟩)
  dsimp only [Pt.U, Pt.locs, Pt.cells, Pt.slots] at X1 l1 y1 z1 st hQ
  subst l1 y1 z1
  exact OG.step (fun t q => st.trans q) (k v T1 Lc X1 hQ)
theorem o_virtual (X : Stand p l e R s m args below meth c T locs cells slots) (hx : p.tables.exec = Jvm.exec) (hZ : Z.Warmed39 s.vm) {own C : String} {index : Nat} {y : MethodName} {bytes : ByteArray} {maxL : Nat} {ret : Option FieldType} {rm : Room} {Qc : Option Value → Heap → List Loc → Prop} {a : Addr} {argsL rest st : List Value} {pc pc' : Nat} {Ls : Array Slot} (W : Nat)
    (hown : s.vm.findClass own = some m.cls) (eT : T.heap = h) (hlink : (Cond.methodLink own index y).before a0 Z = true) (hdecl : (Cond.declares y).before a0 Z = true) (hsel : (Cond.selects C y y).before a0 Z = true) (hinst : (Cond.instanceMethod y).before a0 Z = true) (hinit : (Cond.initialized y.cls).before a0 Z = true) (hcode : (Cond.code y bytes maxL ret).before a0 Z = true) (hy : y.cls ≠ "java/lang/invoke/MethodHandle" ∧ y.cls ≠ "java/lang/invoke/VarHandle")
    (E : Exa Z h a C)
    (hM : MetFree l y (head1 [Cond.code y bytes maxL ret] rm) (fun b U => b = (.ref a :: argsL).toArray ∧ Z.Warmed39 U.vm ∧ U.heap = h) (fun _ _ _ _ _ => True) (fun _ U o U' => ∃ v L, o = .returned v ∧ Qc v U'.heap L ∧ FrameEnd U o U' L rm.cells rm.slots)) (hf : rm.frames + 1 ≤ R.frames) (hl : W + (maxL + 11) + rm.locals ≤ R.locals)
    (hsize : Ls.size = c.maxLocals) (hlen : ∀ sig, parseMethodDescriptor y.desc = some sig → argsL.length = sig.parameters.length) (hs : st = argsL.reverse ++ .ref a :: rest) (hW : (rest.map fun v => v.category).sum ≤ W) (hd : decode c.code pc = .ok (.invokevirtual index, 3)) (hp : pc + 3 = pc') (hc : cells + rm.cells ≤ R.cells) (hsl : slots + rm.slots ≤ R.slots)
    (k : ∀ v T' L, Stand p l e R s m args below meth c T' (locs ++ L) (cells + rm.cells) (slots + rm.slots) → Qc v T'.heap L → OG p e below s Q kc ks T' (mkF m pc' Ls (v.toList ++ rest))) : OG p e below s Q kc ks T (mkF m pc Ls st) := by
  subst hp hs
  obtain ⟨cq, kq, qa, qb, qc⟩ := isOf hZ eT E
  obtain ⟨v, vm₁, ⟨T1, L1, c1, n1⟩, -, X1, ⟨Lc, hQ, l1, y1, z1⟩, st⟩ := X.virtualBack hx (y := y) (z := y) hown (mvT hZ hlink) (mvT hZ hdecl) (notFace_of_selects (args := #[]) (mvT hZ hsel)) (mvT hZ hsel) (mvT hZ hinst) hy (backOf (W := W) hM hZ hcode hinit hf hl) qa qc (g := mkF m pc Ls (argsL.reverse ++ .ref a :: rest)) rfl hsize (Steps.refl _) (argsL := argsL) (rest := rest) hlen rfl (by show 2 * 0 + _ ≤ _; omega) hd (fun _ _ => ⟨rfl, eT, hc, hsl⟩)
  dsimp only [Pt.U, Pt.locs, Pt.cells, Pt.slots] at X1 l1 y1 z1 st hQ
  subst l1 y1 z1
  exact OG.step (fun t q => st.trans q) (k v T1 Lc X1 hQ)
theorem o_new (X : Stand p l e R s m args below meth c T locs cells slots) (hx : p.tables.exec = Jvm.exec) (hZ : Z.Warmed39 s.vm) {own C : String} {index n : Nat} {pc pc' : Nat} {Ls : Array Slot} {rest : List Value} (hown : s.vm.findClass own = some m.cls) (eT : T.heap = h) (w : (Cond.classLink own index C).before a0 Z = true) (wi : (Cond.instantiable C n).before a0 Z = true) (wz : (Cond.initialized C).before a0 Z = true) (hd : decode c.code pc = .ok (.new index, 3)) (hp : pc + 3 = pc') (hc : cells + 1 ≤ R.cells) (hl : slots + n ≤ R.slots)
    (k : ∀ T' h' a, Stand p l e R s m args below meth c T' locs (cells + 1) (slots + n) → T'.heap = h' → a = h.size → Ext h h' → Exa Z h' a C → (∀ {O nm d : String} {ty : FieldType}, Laid Z a0 C O nm d → parseFieldDescriptor d = some ty → Fld Z h' a O nm d (defaultValue ty)) → OG p e below s Q kc ks T' (mkF m pc' Ls (.ref a :: rest))) : OG p e below s Q kc ks T (mkF m pc Ls rest) := by
  subst hp
  obtain ⟨T2, h2, X2, e2, E2, A2, D2, -, st2⟩ := newO X hx hZ hown w wi wz eT (g := mkF m pc Ls rest) rfl hd hc hl
  exact OG.step st2 (k T2 h2 _ X2 e2 rfl E2 A2 D2)
theorem o_getF (X : Stand p l e R s m args below meth c T locs cells slots) (hx : p.tables.exec = Jvm.exec) (hZ : Z.Warmed39 s.vm) {own R0 O n d : String} {index : Nat} {a : Addr} {v : Value} {pc pc' : Nat} {Ls : Array Slot} {rest : List Value} (hown : s.vm.findClass own = some m.cls) (eT : T.heap = h) (w : (Cond.fieldLink own index R0 n d).before a0 Z = true) (via : Via Z R0 O n d) (F : Fld Z h a O n d v) (hd : decode c.code pc = .ok (.getfield index, 3)) (hp : pc + 3 = pc')
    (k : ∀ T', Stand p l e R s m args below meth c T' locs cells slots → T'.heap = h → OG p e below s Q kc ks T' (mkF m pc' Ls (v :: rest))) : OG p e below s Q kc ks T (mkF m pc Ls (.ref a :: rest)) := by
  subst hp
  obtain ⟨T1, X1, e1, st1⟩ := getF X hx hZ hown (host := "") (Or.inl w) via eT F (g := mkF m pc Ls (.ref a :: rest)) rfl rfl hd
  exact OG.step st1 (k T1 X1 e1)
theorem o_putF (X : Stand p l e R s m args below meth c T locs cells slots) (hx : p.tables.exec = Jvm.exec) (hZ : Z.Warmed39 s.vm) {own R0 O n d C : String} {index kk : Nat} {ty : FieldType} {a : Addr} {v old : Value} {pc pc' : Nat} {Ls : Array Slot} {rest : List Value} (hown : s.vm.findClass own = some m.cls) (eT : T.heap = h) (w : (Cond.fieldLink own index R0 n d).before a0 Z = true) (via : Via Z R0 O n d) (F : Fld Z h a O n d old) (E : Exa Z h a C)
    (L : (Cond.lays C O n d).before a0 Z = true ∨ ((Cond.laysFinal C O n d).before a0 Z = true ∧ own = O ∧ meth.name = "<init>")) (wi : (Cond.instantiable C kk).before a0 Z = true) (hty : parseFieldDescriptor d = some ty) (hn : narrow ty v = v) (hf : fits ty v = true) (hd : decode c.code pc = .ok (.putfield index, 3)) (hp : pc + 3 = pc')
    (k : ∀ T' h', Stand p l e R s m args below meth c T' (locs ++ [⟨a, RoadKit.slotOf Z O n d⟩]) cells slots → T'.heap = h' → Wr h h' a (RoadKit.slotOf Z O n d) v → OG p e below s Q kc ks T' (mkF m pc' Ls rest)) : OG p e below s Q kc ks T (mkF m pc Ls (v :: .ref a :: rest)) := by
  subst hp
  obtain ⟨T1, h1, X1, e1, W1, st1⟩ := putF X hx hZ hown (host := "") (Or.inl w) via eT F E L wi hty hn hf (g := mkF m pc Ls (v :: .ref a :: rest)) rfl rfl hd
  exact OG.step st1 (k T1 h1 X1 e1 W1)
theorem z_tlt {x : Int32} (h : x < 0) : ifCond.holds .lt x = true ∧ ifCond.holds .ge x = false := ⟨(if0 _ _).trans (tlt h).1, (if0 _ _).trans (tlt h).2.1⟩
theorem z_flt {x : Int32} (h : ¬ x < 0) : ifCond.holds .lt x = false ∧ ifCond.holds .ge x = true := ⟨(if0 _ _).trans (flt h).1, (if0 _ _).trans (flt h).2.1⟩
theorem z_tgt {x : Int32} (h : 0 < x) : ifCond.holds .gt x = true ∧ ifCond.holds .le x = false := ⟨(if0 _ _).trans (tlt h).2.2.1, (if0 _ _).trans (tlt h).2.2.2⟩
theorem z_fgt {x : Int32} (h : ¬ 0 < x) : ifCond.holds .gt x = false ∧ ifCond.holds .le x = true := ⟨(if0 _ _).trans (flt h).2.2.1, (if0 _ _).trans (flt h).2.2.2⟩
theorem z_teq {x : Int32} (h : x = 0) : ifCond.holds .eq x = true ∧ ifCond.holds .ne x = false := ⟨(if0 _ _).trans (teq h).1, (if0 _ _).trans (teq h).2⟩
theorem z_feq {x : Int32} (h : ¬ x = 0) : ifCond.holds .eq x = false ∧ ifCond.holds .ne x = true := ⟨(if0 _ _).trans (feq h).1, (if0 _ _).trans (feq h).2⟩
theorem c_tlt {x y : Int32} (h : x < y) : if_icmp.holds .lt x y = true ∧ if_icmp.holds .ge x y = false := ⟨(tlt h).1, (tlt h).2.1⟩
theorem c_flt {x y : Int32} (h : ¬ x < y) : if_icmp.holds .lt x y = false ∧ if_icmp.holds .ge x y = true := ⟨(flt h).1, (flt h).2.1⟩
theorem c_tgt {x y : Int32} (h : y < x) : if_icmp.holds .gt x y = true ∧ if_icmp.holds .le x y = false := ⟨(tlt h).2.2.1, (tlt h).2.2.2⟩
theorem c_fgt {x y : Int32} (h : ¬ y < x) : if_icmp.holds .gt x y = false ∧ if_icmp.holds .le x y = true := ⟨(flt h).2.2.1, (flt h).2.2.2⟩
theorem c_teq {x y : Int32} (h : x = y) : if_icmp.holds .eq x y = true ∧ if_icmp.holds .ne x y = false := teq h
theorem c_feq {x y : Int32} (h : ¬ x = y) : if_icmp.holds .eq x y = false ∧ if_icmp.holds .ne x y = true := feq h
theorem l_tlt {x y : Int64} (h : x < y) : ifCond.holds .lt (lcmpW x y) = true ∧ ifCond.holds .ge (lcmpW x y) = false := z_tlt ((lw_lt x y).mpr h)
theorem l_flt {x y : Int64} (h : ¬ x < y) : ifCond.holds .lt (lcmpW x y) = false ∧ ifCond.holds .ge (lcmpW x y) = true := z_flt (fun q => h ((lw_lt x y).mp q))
theorem l_tgt {x y : Int64} (h : y < x) : ifCond.holds .gt (lcmpW x y) = true ∧ ifCond.holds .le (lcmpW x y) = false := z_tgt ((lw_gt x y).mpr h)
theorem l_fgt {x y : Int64} (h : ¬ y < x) : ifCond.holds .gt (lcmpW x y) = false ∧ ifCond.holds .le (lcmpW x y) = true := z_fgt (fun q => h ((lw_gt x y).mp q))
theorem l_teq {x y : Int64} (h : x = y) : ifCond.holds .eq (lcmpW x y) = true ∧ ifCond.holds .ne (lcmpW x y) = false := z_teq ((lw_eq x y).mpr h)
theorem l_feq {x y : Int64} (h : ¬ x = y) : ifCond.holds .eq (lcmpW x y) = false ∧ ifCond.holds .ne (lcmpW x y) = true := z_feq (fun q => h ((lw_eq x y).mp q))
end Own
section OwnA
variable {p : Program} {l : Launch} {e : Env} {R : Room} {s : State} {m : MethodId} {args : Array Value} {below : List Frame} {meth : Method} {c : Code} {T : State} {locs : List Loc} {cells slots : Nat} {Q : Option Value → Heap → List Loc → Prop} {kc ks : Nat} {Z : State} {a0 : Array Value} {h h' : Heap} {a b : Addr} {ty : FieldType} {n : Nat} {f : Nat → Value}
/-- an array of n values: the i-th is f i -/
def OAr (Z : State) (h : Heap) (a : Addr) (ty : FieldType) (n : Nat) (f : Nat → Value) : Prop := ∃ c : Cell, Arr Z h a c ty ∧ c.slots.size = n ∧ ∀ i, i < n → c.slots[i]? = some (f i)
theorem OAr.ext (E : Ext h h') (F : OAr Z h b ty n f) : OAr Z h' b ty n f := by obtain ⟨c, A, r⟩ := F; exact ⟨c, A.ext E, r⟩
theorem OAr.other {sl : Nat} {v : Value} (W : Wr h h' a sl v) (F : OAr Z h b ty n f) (q : b ≠ a) : OAr Z h' b ty n f := by obtain ⟨c, A, r⟩ := F; exact ⟨c, A.other W q, r⟩
theorem OAr.keep {ws : List Addr} (F : OAr Z h b ty n f) (K : Keep h h' ws) (q : b ∉ ws) : OAr Z h' b ty n f := by obtain ⟨c, A, r⟩ := F; exact ⟨c, ⟨K.2.1 b c A.1 q, A.2⟩, r⟩
theorem OAr.lt (F : OAr Z h a ty n f) : a < h.size := by obtain ⟨c, A, -⟩ := F; exact A.lt
theorem OAr.cg {g : Nat → Value} (F : OAr Z h a ty n f) (q : ∀ i, i < n → g i = f i) : OAr Z h a ty n g := by obtain ⟨c, A, r, H⟩ := F; exact ⟨c, A, r, fun i hi => by rw [q i hi]; exact H i hi⟩
theorem OAr.same {j : Nat} {v : Value} (W : Wr h h' a j v) (F : OAr Z h a ty n f) : OAr Z h' a ty n (fun i => if i = j then v else f i) := by
  obtain ⟨c, A, r, H⟩ := F
  refine ⟨_, Arr.same W A, by simp [Cell.setSlot, r], fun i hi => ?_⟩
  obtain ⟨c', h1, -, h3, -⟩ := W
  have hlt : j < c.slots.size := by have := h1.symm.trans A.1; cases this; exact h3
  simp only [Cell.setSlot]
  rw [Array.getElem?_setIfInBounds]
  by_cases q : j = i
  · subst q; simp [hlt]
  · rw [if_neg q, if_neg (fun z => q z.symm)]; exact H i hi
theorem OAr.new {k : ClassId} {z : Int32} (A : Arr Z h a (newA k ty z) ty) : OAr Z h a ty z.toNatClampNeg (fun _ => defaultValue ty) :=
  ⟨_, A, sz_new _ _ _, fun i hi => by simp [newA, hi]⟩
/-- the first values by a list -/
def lk (vs : List Value) (k : Nat) : Value := vs.getD k .null
theorem OAr.setL {vs : List Value} {j : Nat} {v : Value} (W : Wr h h' a j v) (F : OAr Z h a ty n (lk vs)) (hj : j < vs.length) : OAr Z h' a ty n (lk (vs.set j v)) :=
  (OAr.same W F).cg fun i hi => by
    unfold lk
    by_cases q : i = j
    · subst q; simp [hj]
    · simp only [List.getD_eq_getElem?_getD, List.getElem?_set, if_neg q, if_neg (fun z : j = i => q z.symm)]
theorem o_alen (X : Stand p l e R s m args below meth c T locs cells slots) (hx : p.tables.exec = Jvm.exec) (hZ : Z.Warmed39 s.vm) {pc pc' : Nat} {Ls : Array Slot} {rest : List Value} (eT : T.heap = h) (F : OAr Z h a ty n f) (hd : decode c.code pc = .ok (.arraylength, 1)) (z : Int32) (hz : n.toInt32 = z) (hp : pc + 1 = pc') (k : OG p e below s Q kc ks T (mkF m pc' Ls (.int z :: rest))) : OG p e below s Q kc ks T (mkF m pc Ls (.ref a :: rest)) := by
  subst hp hz
  obtain ⟨cl, A, r, H⟩ := F
  exact OG.step (fun t q => X.arraylength hx (by rw [eT]; exact A.1) (State.isArrayOf_alike hZ.alike A.2.1) (g := mkF m pc Ls (.ref a :: rest)) rfl rfl hd t (by rw [r]; exact q)) k
theorem o_newarr (X : Stand p l e R s m args below meth c T locs cells slots) (hx : p.tables.exec = Jvm.exec) (hZ : Z.Warmed39 s.vm) {pc pc' : Nat} {Ls : Array Slot} {rest : List Value} {aty : ArrayType} {z : Int32} (eT : T.heap = h) (w : (Cond.arrayClass (newarray.typeOf aty)).before a0 Z = true) (hd : decode c.code pc = .ok (.newarray aty, 2)) (hn : ¬ z < 0) (cap : Nat) (hcap : z.toNatClampNeg ≤ cap) (hb : cap * 8 ≤ 536870912) (hc : cells + 1 ≤ R.cells) (hl : slots + cap ≤ R.slots) (hp : pc + 2 = pc')
    (k : ∀ T' h' a, Stand p l e R s m args below meth c T' locs (cells + 1) (slots + cap) → T'.heap = h' → a = h.size → Ext h h' → OAr Z h' a (newarray.typeOf aty) z.toNatClampNeg (fun _ => defaultValue (newarray.typeOf aty)) → OG p e below s Q kc ks T' (mkF m pc' Ls (.ref a :: rest))) : OG p e below s Q kc ks T (mkF m pc Ls (.int z :: rest)) := by
  subst hp
  obtain ⟨T1, h1, cA, X1, e1, E1, A1, st1⟩ := newP X hx hZ w eT (g := mkF m pc Ls (.int z :: rest)) rfl hd rfl hn hcap hb hc hl
  exact OG.step st1 (k T1 h1 _ X1 e1 rfl E1 (OAr.new A1))
theorem o_inb {cl : Cell} {j : Int32} (r : cl.slots.size = n) (hj : ¬ j < 0) (hlt : j.toNatClampNeg < n) : ¬ (j < 0 ∨ cl.slots.size ≤ j.toNatClampNeg) := by
  rintro (q | q)
  · exact hj q
  · omega
theorem o_iaload (X : Stand p l e R s m args below meth c T locs cells slots) (hx : p.tables.exec = Jvm.exec) (hZ : Z.Warmed39 s.vm) {pc pc' : Nat} {Ls : Array Slot} {rest : List Value} {j : Int32} (eT : T.heap = h) (F : OAr Z h a .int n f) (hd : decode c.code pc = .ok (.iaload, 1)) (hj : ¬ j < 0) (hlt : j.toNatClampNeg < n) (x : Int32) (hv : f j.toNatClampNeg = .int x) (hp : pc + 1 = pc') (k : OG p e below s Q kc ks T (mkF m pc' Ls (.int x :: rest))) : OG p e below s Q kc ks T (mkF m pc Ls (.int j :: .ref a :: rest)) := by
  subst hp
  obtain ⟨cl, A, r, H⟩ := F
  exact OG.step (fun t q => X.iaload hx (j := j) (v := .int x) (by rw [eT]; exact A.1) (State.isArrayOf_alike hZ.alike A.2.1) A.2.2 (o_inb r hj hlt) (by rw [H _ hlt, hv]) (g := mkF m pc Ls (.int j :: .ref a :: rest)) rfl rfl hd t q) k
theorem o_laload (X : Stand p l e R s m args below meth c T locs cells slots) (hx : p.tables.exec = Jvm.exec) (hZ : Z.Warmed39 s.vm) {pc pc' : Nat} {Ls : Array Slot} {rest : List Value} {j : Int32} (eT : T.heap = h) (F : OAr Z h a .long n f) (hd : decode c.code pc = .ok (.laload, 1)) (hj : ¬ j < 0) (hlt : j.toNatClampNeg < n) (x : Int64) (hv : f j.toNatClampNeg = .long x) (hp : pc + 1 = pc') (k : OG p e below s Q kc ks T (mkF m pc' Ls (.long x :: rest))) : OG p e below s Q kc ks T (mkF m pc Ls (.int j :: .ref a :: rest)) := by
  subst hp
  obtain ⟨cl, A, r, H⟩ := F
  exact OG.step (fun t q => X.laload hx (j := j) (v := .long x) (by rw [eT]; exact A.1) (State.isArrayOf_alike hZ.alike A.2.1) A.2.2 (o_inb r hj hlt) (by rw [H _ hlt, hv]) (g := mkF m pc Ls (.int j :: .ref a :: rest)) rfl rfl hd t q) k
theorem o_caload (X : Stand p l e R s m args below meth c T locs cells slots) (hx : p.tables.exec = Jvm.exec) (hZ : Z.Warmed39 s.vm) {pc pc' : Nat} {Ls : Array Slot} {rest : List Value} {j : Int32} (eT : T.heap = h) (F : OAr Z h a .char n f) (hd : decode c.code pc = .ok (.caload, 1)) (hj : ¬ j < 0) (hlt : j.toNatClampNeg < n) (x : Int32) (hv : f j.toNatClampNeg = .int x) (hp : pc + 1 = pc') (k : OG p e below s Q kc ks T (mkF m pc' Ls (.int x :: rest))) : OG p e below s Q kc ks T (mkF m pc Ls (.int j :: .ref a :: rest)) := by
  subst hp
  obtain ⟨cl, A, r, H⟩ := F
  exact OG.step (fun t q => X.caload hx (j := j) (v := .int x) (by rw [eT]; exact A.1) (State.isArrayOf_alike hZ.alike A.2.1) A.2.2 (o_inb r hj hlt) (by rw [H _ hlt, hv]) (g := mkF m pc Ls (.int j :: .ref a :: rest)) rfl rfl hd t q) k
theorem o_baload (X : Stand p l e R s m args below meth c T locs cells slots) (hx : p.tables.exec = Jvm.exec) (hZ : Z.Warmed39 s.vm) {pc pc' : Nat} {Ls : Array Slot} {rest : List Value} {j : Int32} (eT : T.heap = h) (F : OAr Z h a .byte n f) (hd : decode c.code pc = .ok (.baload, 1)) (hj : ¬ j < 0) (hlt : j.toNatClampNeg < n) (x : Int32) (hv : f j.toNatClampNeg = .int x) (hp : pc + 1 = pc') (k : OG p e below s Q kc ks T (mkF m pc' Ls (.int x :: rest))) : OG p e below s Q kc ks T (mkF m pc Ls (.int j :: .ref a :: rest)) := by
  subst hp
  obtain ⟨cl, A, r, H⟩ := F
  exact OG.step (fun t q => X.baloadBytes hx (j := j) (v := .int x) (by rw [eT]; exact A.1) (State.isArrayOf_alike hZ.alike A.2.1) A.2.2 (o_inb r hj hlt) (by rw [H _ hlt, hv]) (g := mkF m pc Ls (.int j :: .ref a :: rest)) rfl rfl hd t q) k
theorem o_iastore (X : Stand p l e R s m args below meth c T locs cells slots) (hx : p.tables.exec = Jvm.exec) (hZ : Z.Warmed39 s.vm) {pc pc' : Nat} {Ls : Array Slot} {rest : List Value} {j : Int32} {x : Int32} (eT : T.heap = h) (F : OAr Z h a .int n f) (hd : decode c.code pc = .ok (.iastore, 1)) (hj : ¬ j < 0) (hlt : j.toNatClampNeg < n) (hp : pc + 1 = pc')
    (k : ∀ T' h', Stand p l e R s m args below meth c T' (locs ++ [⟨a, j.toNatClampNeg⟩]) cells slots → T'.heap = h' → Wr h h' a j.toNatClampNeg (.int x) → OG p e below s Q kc ks T' (mkF m pc' Ls rest)) : OG p e below s Q kc ks T (mkF m pc Ls (.int x :: .int j :: .ref a :: rest)) := by
  subst hp
  obtain ⟨cl, A, r, H⟩ := F
  obtain ⟨T1, h1, X1, e1, W1, st1⟩ := stI X hx hZ eT A (o_inb r hj hlt) (g := mkF m pc Ls (.int x :: .int j :: .ref a :: rest)) rfl rfl hd
  exact OG.step st1 (k T1 h1 X1 e1 W1)
theorem o_lastore (X : Stand p l e R s m args below meth c T locs cells slots) (hx : p.tables.exec = Jvm.exec) (hZ : Z.Warmed39 s.vm) {pc pc' : Nat} {Ls : Array Slot} {rest : List Value} {j : Int32} {x : Int64} (eT : T.heap = h) (F : OAr Z h a .long n f) (hd : decode c.code pc = .ok (.lastore, 1)) (hj : ¬ j < 0) (hlt : j.toNatClampNeg < n) (hp : pc + 1 = pc')
    (k : ∀ T' h', Stand p l e R s m args below meth c T' (locs ++ [⟨a, j.toNatClampNeg⟩]) cells slots → T'.heap = h' → Wr h h' a j.toNatClampNeg (.long x) → OG p e below s Q kc ks T' (mkF m pc' Ls rest)) : OG p e below s Q kc ks T (mkF m pc Ls (.long x :: .int j :: .ref a :: rest)) := by
  subst hp
  obtain ⟨cl, A, r, H⟩ := F
  obtain ⟨T1, h1, X1, e1, W1, st1⟩ := stJ X hx hZ eT A (o_inb r hj hlt) (g := mkF m pc Ls (.long x :: .int j :: .ref a :: rest)) rfl rfl hd
  exact OG.step st1 (k T1 h1 X1 e1 W1)
theorem o_castore (X : Stand p l e R s m args below meth c T locs cells slots) (hx : p.tables.exec = Jvm.exec) (hZ : Z.Warmed39 s.vm) {pc pc' : Nat} {Ls : Array Slot} {rest : List Value} {j : Int32} {x : Int32} (eT : T.heap = h) (F : OAr Z h a .char n f) (hd : decode c.code pc = .ok (.castore, 1)) (hj : ¬ j < 0) (hlt : j.toNatClampNeg < n) (hp : pc + 1 = pc')
    (k : ∀ T' h', Stand p l e R s m args below meth c T' (locs ++ [⟨a, j.toNatClampNeg⟩]) cells slots → T'.heap = h' → Wr h h' a j.toNatClampNeg (.int (nar .char x)) → OG p e below s Q kc ks T' (mkF m pc' Ls rest)) : OG p e below s Q kc ks T (mkF m pc Ls (.int x :: .int j :: .ref a :: rest)) := by
  subst hp
  obtain ⟨cl, A, r, H⟩ := F
  obtain ⟨T1, h1, X1, e1, W1, st1⟩ := stC X hx hZ eT A (o_inb r hj hlt) (g := mkF m pc Ls (.int x :: .int j :: .ref a :: rest)) rfl rfl hd
  exact OG.step st1 (k T1 h1 X1 e1 W1)
theorem o_bastore (X : Stand p l e R s m args below meth c T locs cells slots) (hx : p.tables.exec = Jvm.exec) (hZ : Z.Warmed39 s.vm) {pc pc' : Nat} {Ls : Array Slot} {rest : List Value} {j : Int32} {x : Int32} (eT : T.heap = h) (F : OAr Z h a .byte n f) (hd : decode c.code pc = .ok (.bastore, 1)) (hj : ¬ j < 0) (hlt : j.toNatClampNeg < n) (hp : pc + 1 = pc')
    (k : ∀ T' h', Stand p l e R s m args below meth c T' (locs ++ [⟨a, j.toNatClampNeg⟩]) cells slots → T'.heap = h' → Wr h h' a j.toNatClampNeg (.int (nar .byte x)) → OG p e below s Q kc ks T' (mkF m pc' Ls rest)) : OG p e below s Q kc ks T (mkF m pc Ls (.int x :: .int j :: .ref a :: rest)) := by
  subst hp
  obtain ⟨cl, A, r, H⟩ := F
  obtain ⟨T1, h1, X1, e1, W1, st1⟩ := stB X hx hZ eT A (o_inb r hj hlt) (g := mkF m pc Ls (.int x :: .int j :: .ref a :: rest)) rfl rfl hd
  exact OG.step st1 (k T1 h1 X1 e1 W1)
theorem o_private (X : Stand p l e R s m args below meth c T locs cells slots) (hx : p.tables.exec = Jvm.exec) (hZ : Z.Warmed39 s.vm) {own : String} {index kk : Nat} {y : MethodName} {bytes : ByteArray} {maxL : Nat} {ret : Option FieldType} {rm : Room} {Qc : Option Value → Heap → List Loc → Prop} {argsL rest st : List Value} {pc pc' : Nat} {Ls : Array Slot} (W : Nat)
    (hown : s.vm.findClass own = some m.cls) (eT : T.heap = h) (hlink : (Cond.methodLink own index y).before a0 Z = true) (hinst : (Cond.instanceMethod y).before a0 Z = true) (hpriv : (Cond.privateMethod y).before a0 Z = true) (wi : (Cond.instantiable y.cls kk).before a0 Z = true) (hinit : (Cond.initialized y.cls).before a0 Z = true) (hcode : (Cond.code y bytes maxL ret).before a0 Z = true) (hy : y.cls ≠ "java/lang/invoke/MethodHandle" ∧ y.cls ≠ "java/lang/invoke/VarHandle")
    (E : Exa Z h a y.cls)
    (hM : MetFree l y (head1 [Cond.code y bytes maxL ret] rm) (fun b U => b = (.ref a :: argsL).toArray ∧ Z.Warmed39 U.vm ∧ U.heap = h) (fun _ _ _ _ _ => True) (fun _ U o U' => ∃ v L, o = .returned v ∧ Qc v U'.heap L ∧ FrameEnd U o U' L rm.cells rm.slots)) (hf : rm.frames + 1 ≤ R.frames) (hl : W + (maxL + 11) + rm.locals ≤ R.locals)
    (hsize : Ls.size = c.maxLocals) (hlen : ∀ sig, parseMethodDescriptor y.desc = some sig → argsL.length = sig.parameters.length) (hs : st = argsL.reverse ++ .ref a :: rest) (hW : (rest.map fun v => v.category).sum ≤ W) (hd : decode c.code pc = .ok (.invokevirtual index, 3)) (hp : pc + 3 = pc') (hc : cells + rm.cells ≤ R.cells) (hsl : slots + rm.slots ≤ R.slots)
    (k : ∀ v T' L, Stand p l e R s m args below meth c T' (locs ++ L) (cells + rm.cells) (slots + rm.slots) → Qc v T'.heap L → OG p e below s Q kc ks T' (mkF m pc' Ls (v.toList ++ rest))) : OG p e below s Q kc ks T (mkF m pc Ls st) := by
  subst hp hs
  obtain ⟨cq, q1, q2⟩ := E.cell
  have hpa := Cond.privateMethod_at (mvP hZ hpriv (args := args))
  obtain ⟨cI, kI, i1, i2, -, i4, -⟩ := Cond.instantiable_spec (mvT hZ wi : (Cond.instantiable y.cls kk).before args s = true)
  have hni : kI.isInterface = false := (Bool.or_eq_false_iff.mp i4).1
  have hsel := selects_self_of_private (args := args) i1 i2 hni hpa (mvT hZ hinst) hy
  obtain ⟨v, vm₁, ⟨T1, L1, c1, n1⟩, -, X1, ⟨Lc, hQ, l1, y1, z1⟩, st⟩ := X.privateBack hx (y := y) hown (mvT hZ hlink) (mvT hZ hinst) hsel hpa (mvT hZ hcode) hy (backOf (W := W) hM hZ hcode hinit hf hl) (g := mkF m pc Ls (argsL.reverse ++ .ref a :: rest)) rfl hsize (Steps.refl _) (a := a) (by rw [eT]; exact q1) q2 (argsL := argsL) (rest := rest) hlen rfl (by show 2 * 0 + _ ≤ _; omega) hd (fun _ _ => ⟨rfl, eT, hc, hsl⟩)
  dsimp only [Pt.U, Pt.locs, Pt.cells, Pt.slots] at X1 l1 y1 z1 st hQ
  subst l1 y1 z1
  exact OG.step (fun t q => st.trans q) (k v T1 Lc X1 hQ)
end OwnA
section OwnB
def ci (c : Nat → Int32) : Nat → Value := fun i => .int (c i)
def cj (c : Nat → Int64) : Nat → Value := fun i => .long (c i)
def li (vs : List Int32) (i : Nat) : Int32 := vs.getD i 0
def upd (c : Nat → Int32) (j : Nat) (x : Int32) : Nat → Int32 := fun i => if i = j then x else c i
def updJ (c : Nat → Int64) (j : Nat) (x : Int64) : Nat → Int64 := fun i => if i = j then x else c i
variable {Z : State} {h h' : Heap} {a : Addr} {ty : FieldType} {n : Nat}
theorem OAr.setI {vs : List Int32} {j : Nat} {x : Int32} (W : Wr h h' a j (.int x)) (F : OAr Z h a ty n (ci (li vs))) (hj : j < vs.length) : OAr Z h' a ty n (ci (li (vs.set j x))) :=
  (OAr.same W F).cg fun i hi => by
    unfold ci li
    by_cases q : i = j
    · subst q; simp [hj]
    · simp only [List.getD_eq_getElem?_getD, List.getElem?_set, if_neg q, if_neg (fun z : j = i => q z.symm)]
theorem OAr.updI {c : Nat → Int32} {j : Nat} {x : Int32} (W : Wr h h' a j (.int x)) (F : OAr Z h a ty n (ci c)) : OAr Z h' a ty n (ci (upd c j x)) :=
  (OAr.same W F).cg fun i hi => by unfold ci upd; split <;> rfl
theorem OAr.updJ {c : Nat → Int64} {j : Nat} {x : Int64} (W : Wr h h' a j (.long x)) (F : OAr Z h a ty n (cj c)) : OAr Z h' a ty n (cj (updJ c j x)) :=
  (OAr.same W F).cg fun i hi => by unfold cj Jvm.Pilot.@@N@@.updJ; split <;> rfl
theorem OAr.zeros {k : Nat} (F : OAr Z h a ty n (fun _ => .int 0)) : OAr Z h a ty n (ci (li (List.replicate k 0))) :=
  F.cg fun i hi => by unfold ci li; by_cases q : i < k <;> simp [q]
theorem own_back {z : Int32} (q : ¬ z < 0) : z.toNatClampNeg.toInt32 = z := (back32 q).1
end OwnB

theorem d1_0 : decode prog_86_method_7_code 0 = .ok (.iload_n 0, 1) := by decide +kernel
theorem d1_1 : decode prog_86_method_7_code 1 = .ok (.bipush 97, 2) := by decide +kernel
theorem d1_3 : decode prog_86_method_7_code 3 = .ok (.if_icmp .lt 9, 3) := by decide +kernel
theorem d1_12 : decode prog_86_method_7_code 12 = .ok (.iload_n 0, 1) := by decide +kernel
theorem d1_13 : decode prog_86_method_7_code 13 = .ok (.bipush 65, 2) := by decide +kernel
theorem d1_15 : decode prog_86_method_7_code 15 = .ok (.if_icmp .lt 9, 3) := by decide +kernel
theorem d1_24 : decode prog_86_method_7_code 24 = .ok (.iload_n 0, 1) := by decide +kernel
theorem d1_25 : decode prog_86_method_7_code 25 = .ok (.bipush 95, 2) := by decide +kernel
theorem d1_27 : decode prog_86_method_7_code 27 = .ok (.if_icmp .eq 164, 3) := by decide +kernel
theorem d1_191 : decode prog_86_method_7_code 191 = .ok (.iconst 1, 1) := by decide +kernel
theorem d1_192 : decode prog_86_method_7_code 192 = .ok (.goto 4, 3) := by decide +kernel
theorem d1_196 : decode prog_86_method_7_code 196 = .ok (.ireturn, 1) := by decide +kernel
theorem d1_30 : decode prog_86_method_7_code 30 = .ok (.iload_n 0, 1) := by decide +kernel
theorem d1_31 : decode prog_86_method_7_code 31 = .ok (.sipush 192, 3) := by decide +kernel
theorem d1_34 : decode prog_86_method_7_code 34 = .ok (.if_icmp .lt 10, 3) := by decide +kernel
theorem d1_44 : decode prog_86_method_7_code 44 = .ok (.iload_n 0, 1) := by decide +kernel
theorem d1_45 : decode prog_86_method_7_code 45 = .ok (.sipush 216, 3) := by decide +kernel
theorem d1_48 : decode prog_86_method_7_code 48 = .ok (.if_icmp .lt 10, 3) := by decide +kernel
theorem d1_58 : decode prog_86_method_7_code 58 = .ok (.iload_n 0, 1) := by decide +kernel
theorem d1_59 : decode prog_86_method_7_code 59 = .ok (.sipush 248, 3) := by decide +kernel
theorem d1_62 : decode prog_86_method_7_code 62 = .ok (.if_icmp .lt 10, 3) := by decide +kernel
theorem d1_72 : decode prog_86_method_7_code 72 = .ok (.iload_n 0, 1) := by decide +kernel
theorem d1_73 : decode prog_86_method_7_code 73 = .ok (.sipush 880, 3) := by decide +kernel
theorem d1_76 : decode prog_86_method_7_code 76 = .ok (.if_icmp .lt 10, 3) := by decide +kernel
theorem d1_86 : decode prog_86_method_7_code 86 = .ok (.iload_n 0, 1) := by decide +kernel
theorem d1_87 : decode prog_86_method_7_code 87 = .ok (.sipush 895, 3) := by decide +kernel
theorem d1_90 : decode prog_86_method_7_code 90 = .ok (.if_icmp .lt 10, 3) := by decide +kernel
theorem d1_100 : decode prog_86_method_7_code 100 = .ok (.iload_n 0, 1) := by decide +kernel
theorem d1_101 : decode prog_86_method_7_code 101 = .ok (.sipush 8204, 3) := by decide +kernel
theorem d1_104 : decode prog_86_method_7_code 104 = .ok (.if_icmp .lt 10, 3) := by decide +kernel
theorem d1_114 : decode prog_86_method_7_code 114 = .ok (.iload_n 0, 1) := by decide +kernel
theorem d1_115 : decode prog_86_method_7_code 115 = .ok (.sipush 8304, 3) := by decide +kernel
theorem d1_118 : decode prog_86_method_7_code 118 = .ok (.if_icmp .lt 10, 3) := by decide +kernel
theorem d1_128 : decode prog_86_method_7_code 128 = .ok (.iload_n 0, 1) := by decide +kernel
theorem d1_129 : decode prog_86_method_7_code 129 = .ok (.sipush 11264, 3) := by decide +kernel
theorem d1_132 : decode prog_86_method_7_code 132 = .ok (.if_icmp .lt 10, 3) := by decide +kernel
theorem d1_142 : decode prog_86_method_7_code 142 = .ok (.iload_n 0, 1) := by decide +kernel
theorem d1_143 : decode prog_86_method_7_code 143 = .ok (.sipush 12289, 3) := by decide +kernel
theorem d1_146 : decode prog_86_method_7_code 146 = .ok (.if_icmp .lt 9, 3) := by decide +kernel
theorem d1_155 : decode prog_86_method_7_code 155 = .ok (.iload_n 0, 1) := by decide +kernel
theorem d1_156 : decode prog_86_method_7_code 156 = .ok (.ldc 84, 2) := by decide +kernel
theorem d1_158 : decode prog_86_method_7_code 158 = .ok (.if_icmp .lt 9, 3) := by decide +kernel
theorem d1_167 : decode prog_86_method_7_code 167 = .ok (.iload_n 0, 1) := by decide +kernel
theorem d1_168 : decode prog_86_method_7_code 168 = .ok (.ldc 86, 2) := by decide +kernel
theorem d1_170 : decode prog_86_method_7_code 170 = .ok (.if_icmp .lt 9, 3) := by decide +kernel
theorem d1_179 : decode prog_86_method_7_code 179 = .ok (.iload_n 0, 1) := by decide +kernel
theorem d1_180 : decode prog_86_method_7_code 180 = .ok (.ldc 83, 2) := by decide +kernel
theorem d1_182 : decode prog_86_method_7_code 182 = .ok (.if_icmp .lt 13, 3) := by decide +kernel
theorem d1_195 : decode prog_86_method_7_code 195 = .ok (.iconst 0, 1) := by decide +kernel
theorem d1_185 : decode prog_86_method_7_code 185 = .ok (.iload_n 0, 1) := by decide +kernel
theorem d1_186 : decode prog_86_method_7_code 186 = .ok (.ldc 87, 2) := by decide +kernel
theorem d1_188 : decode prog_86_method_7_code 188 = .ok (.if_icmp .gt 7, 3) := by decide +kernel
theorem d1_173 : decode prog_86_method_7_code 173 = .ok (.iload_n 0, 1) := by decide +kernel
theorem d1_174 : decode prog_86_method_7_code 174 = .ok (.ldc 82, 2) := by decide +kernel
theorem d1_176 : decode prog_86_method_7_code 176 = .ok (.if_icmp .le 15, 3) := by decide +kernel
theorem d1_161 : decode prog_86_method_7_code 161 = .ok (.iload_n 0, 1) := by decide +kernel
theorem d1_162 : decode prog_86_method_7_code 162 = .ok (.ldc 85, 2) := by decide +kernel
theorem d1_164 : decode prog_86_method_7_code 164 = .ok (.if_icmp .le 27, 3) := by decide +kernel
theorem d1_149 : decode prog_86_method_7_code 149 = .ok (.iload_n 0, 1) := by decide +kernel
theorem d1_150 : decode prog_86_method_7_code 150 = .ok (.ldc 80, 2) := by decide +kernel
theorem d1_152 : decode prog_86_method_7_code 152 = .ok (.if_icmp .le 39, 3) := by decide +kernel
theorem d1_135 : decode prog_86_method_7_code 135 = .ok (.iload_n 0, 1) := by decide +kernel
theorem d1_136 : decode prog_86_method_7_code 136 = .ok (.sipush 12271, 3) := by decide +kernel
theorem d1_139 : decode prog_86_method_7_code 139 = .ok (.if_icmp .le 52, 3) := by decide +kernel
theorem d1_121 : decode prog_86_method_7_code 121 = .ok (.iload_n 0, 1) := by decide +kernel
theorem d1_122 : decode prog_86_method_7_code 122 = .ok (.sipush 8591, 3) := by decide +kernel
theorem d1_125 : decode prog_86_method_7_code 125 = .ok (.if_icmp .le 66, 3) := by decide +kernel
theorem d1_107 : decode prog_86_method_7_code 107 = .ok (.iload_n 0, 1) := by decide +kernel
theorem d1_108 : decode prog_86_method_7_code 108 = .ok (.sipush 8205, 3) := by decide +kernel
theorem d1_111 : decode prog_86_method_7_code 111 = .ok (.if_icmp .le 80, 3) := by decide +kernel
theorem d1_93 : decode prog_86_method_7_code 93 = .ok (.iload_n 0, 1) := by decide +kernel
theorem d1_94 : decode prog_86_method_7_code 94 = .ok (.sipush 8191, 3) := by decide +kernel
theorem d1_97 : decode prog_86_method_7_code 97 = .ok (.if_icmp .le 94, 3) := by decide +kernel
theorem d1_79 : decode prog_86_method_7_code 79 = .ok (.iload_n 0, 1) := by decide +kernel
theorem d1_80 : decode prog_86_method_7_code 80 = .ok (.sipush 893, 3) := by decide +kernel
theorem d1_83 : decode prog_86_method_7_code 83 = .ok (.if_icmp .le 108, 3) := by decide +kernel
theorem d1_65 : decode prog_86_method_7_code 65 = .ok (.iload_n 0, 1) := by decide +kernel
theorem d1_66 : decode prog_86_method_7_code 66 = .ok (.sipush 767, 3) := by decide +kernel
theorem d1_69 : decode prog_86_method_7_code 69 = .ok (.if_icmp .le 122, 3) := by decide +kernel
theorem d1_51 : decode prog_86_method_7_code 51 = .ok (.iload_n 0, 1) := by decide +kernel
theorem d1_52 : decode prog_86_method_7_code 52 = .ok (.sipush 246, 3) := by decide +kernel
theorem d1_55 : decode prog_86_method_7_code 55 = .ok (.if_icmp .le 136, 3) := by decide +kernel
theorem d1_37 : decode prog_86_method_7_code 37 = .ok (.iload_n 0, 1) := by decide +kernel
theorem d1_38 : decode prog_86_method_7_code 38 = .ok (.sipush 214, 3) := by decide +kernel
theorem d1_41 : decode prog_86_method_7_code 41 = .ok (.if_icmp .le 150, 3) := by decide +kernel
theorem d1_18 : decode prog_86_method_7_code 18 = .ok (.iload_n 0, 1) := by decide +kernel
theorem d1_19 : decode prog_86_method_7_code 19 = .ok (.bipush 90, 2) := by decide +kernel
theorem d1_21 : decode prog_86_method_7_code 21 = .ok (.if_icmp .le 170, 3) := by decide +kernel
theorem d1_6 : decode prog_86_method_7_code 6 = .ok (.iload_n 0, 1) := by decide +kernel
theorem d1_7 : decode prog_86_method_7_code 7 = .ok (.bipush 122, 2) := by decide +kernel
theorem d1_9 : decode prog_86_method_7_code 9 = .ok (.if_icmp .le 182, 3) := by decide +kernel
def f1_179 (x0 : Int32) : Int32 := (if x0 < (65536 : Int32) then (0 : Int32) else (if (983039 : Int32) < x0 then (0 : Int32) else (1 : Int32)))
set_option maxRecDepth 65536 in
set_option maxHeartbeats 40000000 in
theorem b1_179 {p : Program} {l : Launch} {e : Env} {s : State} {m : MethodId} {args : Array Value} {below : List Frame} {meth : Method} {c : Code} {Z : State} {a0 : Array Value} {h0 : Heap} {n0 : Nat} (hx : p.tables.exec = Jvm.exec) (hZ : Z.Warmed39 s.vm) (hw : ∀ d ∈ tables_1, d.before a0 Z = true) (hby : c.code = prog_86_method_7_code) (hml : c.maxLocals = 1) (hown : s.vm.findClass "com/example/libtreegram/libtreegram/model/XmlNames" = some m.cls) (hnm : meth.name = "isNcNameStartChar") (hret : meth.sig.returnType = some .boolean) (hlk : meth.locks = false)  {T : State} {locs : List Loc} (x0 : Int32) (r : Int32) (X : Stand p l e ({ frames := 0, cells := 0, slots := 0, locals := 0 } : Room) s m args below meth c T locs 0 0) (eT : T.heap = h0) (N : Fr n0 locs) (Z0 : n0 ≤ h0.size) (hr : f1_179 x0 = r) :
    OG p e below s (fun v h L => v = (some (.int r)) ∧ Fr n0 L ∧ h = h0) 0 0 T (mkF m 179 #[.val (.int x0)] []) := by
  have hr : (if x0 < (65536 : Int32) then (0 : Int32) else (if (983039 : Int32) < x0 then (0 : Int32) else (1 : Int32))) = r := hr
  refine o_iload_n X hx (hb hby d1_179) rfl (pc' := 180) rfl ?_
  refine o_ldcInt X hx hZ hown (hb hby d1_180) (hw _ (List.mem_of_getElem? (i := 18) rfl)) (pc' := 182) rfl ?_
  by_cases hc15 : x0 < (65536 : Int32)
  · rw [if_pos hc15] at hr
    refine o_icmpYes X hx (hb hby d1_182) (c_tlt hc15).1 (pc' := 195) (by decide) (by decide) ?_
    refine o_iconst X hx (hb hby d1_195) (0 : Int32) rfl (pc' := 196) rfl ?_
    subst hr
    exact o_retN X hx hlk (t := .boolean) (by simp) hret (hb hby d1_196) rfl ⟨rfl, N, eT⟩ (by decide) (by decide)
  · rw [if_neg hc15] at hr
    refine o_icmpNo X hx (hb hby d1_182) (c_flt hc15).1 (pc' := 185) rfl ?_
    refine o_iload_n X hx (hb hby d1_185) rfl (pc' := 186) rfl ?_
    refine o_ldcInt X hx hZ hown (hb hby d1_186) (hw _ (List.mem_of_getElem? (i := 22) rfl)) (pc' := 188) rfl ?_
    by_cases hc16 : (983039 : Int32) < x0
    · rw [if_pos hc16] at hr
      refine o_icmpYes X hx (hb hby d1_188) (c_tgt hc16).1 (pc' := 195) (by decide) (by decide) ?_
      refine o_iconst X hx (hb hby d1_195) (0 : Int32) rfl (pc' := 196) rfl ?_
      subst hr
      exact o_retN X hx hlk (t := .boolean) (by simp) hret (hb hby d1_196) rfl ⟨rfl, N, eT⟩ (by decide) (by decide)
    · rw [if_neg hc16] at hr
      refine o_icmpNo X hx (hb hby d1_188) (c_fgt hc16).1 (pc' := 191) rfl ?_
      refine o_iconst X hx (hb hby d1_191) (1 : Int32) rfl (pc' := 192) rfl ?_
      refine o_goto X hx (hb hby d1_192) (pc' := 196) (by decide) (by decide) ?_
      subst hr
      exact o_retN X hx hlk (t := .boolean) (by simp) hret (hb hby d1_196) rfl ⟨rfl, N, eT⟩ (by decide) (by decide)
def f1_167 (x0 : Int32) : Int32 := (if x0 < (65008 : Int32) then (f1_179 x0) else (if (65533 : Int32) < x0 then (f1_179 x0) else (1 : Int32)))
set_option maxRecDepth 65536 in
set_option maxHeartbeats 40000000 in
theorem b1_167 {p : Program} {l : Launch} {e : Env} {s : State} {m : MethodId} {args : Array Value} {below : List Frame} {meth : Method} {c : Code} {Z : State} {a0 : Array Value} {h0 : Heap} {n0 : Nat} (hx : p.tables.exec = Jvm.exec) (hZ : Z.Warmed39 s.vm) (hw : ∀ d ∈ tables_1, d.before a0 Z = true) (hby : c.code = prog_86_method_7_code) (hml : c.maxLocals = 1) (hown : s.vm.findClass "com/example/libtreegram/libtreegram/model/XmlNames" = some m.cls) (hnm : meth.name = "isNcNameStartChar") (hret : meth.sig.returnType = some .boolean) (hlk : meth.locks = false)  {T : State} {locs : List Loc} (x0 : Int32) (r : Int32) (X : Stand p l e ({ frames := 0, cells := 0, slots := 0, locals := 0 } : Room) s m args below meth c T locs 0 0) (eT : T.heap = h0) (N : Fr n0 locs) (Z0 : n0 ≤ h0.size) (hr : f1_167 x0 = r) :
    OG p e below s (fun v h L => v = (some (.int r)) ∧ Fr n0 L ∧ h = h0) 0 0 T (mkF m 167 #[.val (.int x0)] []) := by
  have hr : (if x0 < (65008 : Int32) then (f1_179 x0) else (if (65533 : Int32) < x0 then (f1_179 x0) else (1 : Int32))) = r := hr
  refine o_iload_n X hx (hb hby d1_167) rfl (pc' := 168) rfl ?_
  refine o_ldcInt X hx hZ hown (hb hby d1_168) (hw _ (List.mem_of_getElem? (i := 17) rfl)) (pc' := 170) rfl ?_
  by_cases hc14 : x0 < (65008 : Int32)
  · rw [if_pos hc14] at hr
    refine o_icmpYes X hx (hb hby d1_170) (c_tlt hc14).1 (pc' := 179) (by decide) (by decide) ?_
    exact b1_179 hx hZ hw hby hml hown hnm hret hlk x0 r X eT N Z0 hr
  · rw [if_neg hc14] at hr
    refine o_icmpNo X hx (hb hby d1_170) (c_flt hc14).1 (pc' := 173) rfl ?_
    refine o_iload_n X hx (hb hby d1_173) rfl (pc' := 174) rfl ?_
    refine o_ldcInt X hx hZ hown (hb hby d1_174) (hw _ (List.mem_of_getElem? (i := 21) rfl)) (pc' := 176) rfl ?_
    by_cases hc17 : (65533 : Int32) < x0
    · rw [if_pos hc17] at hr
      refine o_icmpNo X hx (hb hby d1_176) (c_tgt hc17).2 (pc' := 179) rfl ?_
      exact b1_179 hx hZ hw hby hml hown hnm hret hlk x0 r X eT N Z0 hr
    · rw [if_neg hc17] at hr
      refine o_icmpYes X hx (hb hby d1_176) (c_fgt hc17).2 (pc' := 191) (by decide) (by decide) ?_
      refine o_iconst X hx (hb hby d1_191) (1 : Int32) rfl (pc' := 192) rfl ?_
      refine o_goto X hx (hb hby d1_192) (pc' := 196) (by decide) (by decide) ?_
      subst hr
      exact o_retN X hx hlk (t := .boolean) (by simp) hret (hb hby d1_196) rfl ⟨rfl, N, eT⟩ (by decide) (by decide)
def f1_155 (x0 : Int32) : Int32 := (if x0 < (63744 : Int32) then (f1_167 x0) else (if (64975 : Int32) < x0 then (f1_167 x0) else (1 : Int32)))
set_option maxRecDepth 65536 in
set_option maxHeartbeats 40000000 in
theorem b1_155 {p : Program} {l : Launch} {e : Env} {s : State} {m : MethodId} {args : Array Value} {below : List Frame} {meth : Method} {c : Code} {Z : State} {a0 : Array Value} {h0 : Heap} {n0 : Nat} (hx : p.tables.exec = Jvm.exec) (hZ : Z.Warmed39 s.vm) (hw : ∀ d ∈ tables_1, d.before a0 Z = true) (hby : c.code = prog_86_method_7_code) (hml : c.maxLocals = 1) (hown : s.vm.findClass "com/example/libtreegram/libtreegram/model/XmlNames" = some m.cls) (hnm : meth.name = "isNcNameStartChar") (hret : meth.sig.returnType = some .boolean) (hlk : meth.locks = false)  {T : State} {locs : List Loc} (x0 : Int32) (r : Int32) (X : Stand p l e ({ frames := 0, cells := 0, slots := 0, locals := 0 } : Room) s m args below meth c T locs 0 0) (eT : T.heap = h0) (N : Fr n0 locs) (Z0 : n0 ≤ h0.size) (hr : f1_155 x0 = r) :
    OG p e below s (fun v h L => v = (some (.int r)) ∧ Fr n0 L ∧ h = h0) 0 0 T (mkF m 155 #[.val (.int x0)] []) := by
  have hr : (if x0 < (63744 : Int32) then (f1_167 x0) else (if (64975 : Int32) < x0 then (f1_167 x0) else (1 : Int32))) = r := hr
  refine o_iload_n X hx (hb hby d1_155) rfl (pc' := 156) rfl ?_
  refine o_ldcInt X hx hZ hown (hb hby d1_156) (hw _ (List.mem_of_getElem? (i := 16) rfl)) (pc' := 158) rfl ?_
  by_cases hc13 : x0 < (63744 : Int32)
  · rw [if_pos hc13] at hr
    refine o_icmpYes X hx (hb hby d1_158) (c_tlt hc13).1 (pc' := 167) (by decide) (by decide) ?_
    exact b1_167 hx hZ hw hby hml hown hnm hret hlk x0 r X eT N Z0 hr
  · rw [if_neg hc13] at hr
    refine o_icmpNo X hx (hb hby d1_158) (c_flt hc13).1 (pc' := 161) rfl ?_
    refine o_iload_n X hx (hb hby d1_161) rfl (pc' := 162) rfl ?_
    refine o_ldcInt X hx hZ hown (hb hby d1_162) (hw _ (List.mem_of_getElem? (i := 20) rfl)) (pc' := 164) rfl ?_
    by_cases hc18 : (64975 : Int32) < x0
    · rw [if_pos hc18] at hr
      refine o_icmpNo X hx (hb hby d1_164) (c_tgt hc18).2 (pc' := 167) rfl ?_
      exact b1_167 hx hZ hw hby hml hown hnm hret hlk x0 r X eT N Z0 hr
    · rw [if_neg hc18] at hr
      refine o_icmpYes X hx (hb hby d1_164) (c_fgt hc18).2 (pc' := 191) (by decide) (by decide) ?_
      refine o_iconst X hx (hb hby d1_191) (1 : Int32) rfl (pc' := 192) rfl ?_
      refine o_goto X hx (hb hby d1_192) (pc' := 196) (by decide) (by decide) ?_
      subst hr
      exact o_retN X hx hlk (t := .boolean) (by simp) hret (hb hby d1_196) rfl ⟨rfl, N, eT⟩ (by decide) (by decide)
def f1_142 (x0 : Int32) : Int32 := (if x0 < (12289 : Int32) then (f1_155 x0) else (if (55295 : Int32) < x0 then (f1_155 x0) else (1 : Int32)))
set_option maxRecDepth 65536 in
set_option maxHeartbeats 40000000 in
theorem b1_142 {p : Program} {l : Launch} {e : Env} {s : State} {m : MethodId} {args : Array Value} {below : List Frame} {meth : Method} {c : Code} {Z : State} {a0 : Array Value} {h0 : Heap} {n0 : Nat} (hx : p.tables.exec = Jvm.exec) (hZ : Z.Warmed39 s.vm) (hw : ∀ d ∈ tables_1, d.before a0 Z = true) (hby : c.code = prog_86_method_7_code) (hml : c.maxLocals = 1) (hown : s.vm.findClass "com/example/libtreegram/libtreegram/model/XmlNames" = some m.cls) (hnm : meth.name = "isNcNameStartChar") (hret : meth.sig.returnType = some .boolean) (hlk : meth.locks = false)  {T : State} {locs : List Loc} (x0 : Int32) (r : Int32) (X : Stand p l e ({ frames := 0, cells := 0, slots := 0, locals := 0 } : Room) s m args below meth c T locs 0 0) (eT : T.heap = h0) (N : Fr n0 locs) (Z0 : n0 ≤ h0.size) (hr : f1_142 x0 = r) :
    OG p e below s (fun v h L => v = (some (.int r)) ∧ Fr n0 L ∧ h = h0) 0 0 T (mkF m 142 #[.val (.int x0)] []) := by
  have hr : (if x0 < (12289 : Int32) then (f1_155 x0) else (if (55295 : Int32) < x0 then (f1_155 x0) else (1 : Int32))) = r := hr
  refine o_iload_n X hx (hb hby d1_142) rfl (pc' := 143) rfl ?_
  refine o_sipush X hx (hb hby d1_143) (12289 : Int32) rfl (pc' := 146) rfl ?_
  by_cases hc12 : x0 < (12289 : Int32)
  · rw [if_pos hc12] at hr
    refine o_icmpYes X hx (hb hby d1_146) (c_tlt hc12).1 (pc' := 155) (by decide) (by decide) ?_
    exact b1_155 hx hZ hw hby hml hown hnm hret hlk x0 r X eT N Z0 hr
  · rw [if_neg hc12] at hr
    refine o_icmpNo X hx (hb hby d1_146) (c_flt hc12).1 (pc' := 149) rfl ?_
    refine o_iload_n X hx (hb hby d1_149) rfl (pc' := 150) rfl ?_
    refine o_ldcInt X hx hZ hown (hb hby d1_150) (hw _ (List.mem_of_getElem? (i := 19) rfl)) (pc' := 152) rfl ?_
    by_cases hc19 : (55295 : Int32) < x0
    · rw [if_pos hc19] at hr
      refine o_icmpNo X hx (hb hby d1_152) (c_tgt hc19).2 (pc' := 155) rfl ?_
      exact b1_155 hx hZ hw hby hml hown hnm hret hlk x0 r X eT N Z0 hr
    · rw [if_neg hc19] at hr
      refine o_icmpYes X hx (hb hby d1_152) (c_fgt hc19).2 (pc' := 191) (by decide) (by decide) ?_
      refine o_iconst X hx (hb hby d1_191) (1 : Int32) rfl (pc' := 192) rfl ?_
      refine o_goto X hx (hb hby d1_192) (pc' := 196) (by decide) (by decide) ?_
      subst hr
      exact o_retN X hx hlk (t := .boolean) (by simp) hret (hb hby d1_196) rfl ⟨rfl, N, eT⟩ (by decide) (by decide)
def f1_128 (x0 : Int32) : Int32 := (if x0 < (11264 : Int32) then (f1_142 x0) else (if (12271 : Int32) < x0 then (f1_142 x0) else (1 : Int32)))
set_option maxRecDepth 65536 in
set_option maxHeartbeats 40000000 in
theorem b1_128 {p : Program} {l : Launch} {e : Env} {s : State} {m : MethodId} {args : Array Value} {below : List Frame} {meth : Method} {c : Code} {Z : State} {a0 : Array Value} {h0 : Heap} {n0 : Nat} (hx : p.tables.exec = Jvm.exec) (hZ : Z.Warmed39 s.vm) (hw : ∀ d ∈ tables_1, d.before a0 Z = true) (hby : c.code = prog_86_method_7_code) (hml : c.maxLocals = 1) (hown : s.vm.findClass "com/example/libtreegram/libtreegram/model/XmlNames" = some m.cls) (hnm : meth.name = "isNcNameStartChar") (hret : meth.sig.returnType = some .boolean) (hlk : meth.locks = false)  {T : State} {locs : List Loc} (x0 : Int32) (r : Int32) (X : Stand p l e ({ frames := 0, cells := 0, slots := 0, locals := 0 } : Room) s m args below meth c T locs 0 0) (eT : T.heap = h0) (N : Fr n0 locs) (Z0 : n0 ≤ h0.size) (hr : f1_128 x0 = r) :
    OG p e below s (fun v h L => v = (some (.int r)) ∧ Fr n0 L ∧ h = h0) 0 0 T (mkF m 128 #[.val (.int x0)] []) := by
  have hr : (if x0 < (11264 : Int32) then (f1_142 x0) else (if (12271 : Int32) < x0 then (f1_142 x0) else (1 : Int32))) = r := hr
  refine o_iload_n X hx (hb hby d1_128) rfl (pc' := 129) rfl ?_
  refine o_sipush X hx (hb hby d1_129) (11264 : Int32) rfl (pc' := 132) rfl ?_
  by_cases hc11 : x0 < (11264 : Int32)
  · rw [if_pos hc11] at hr
    refine o_icmpYes X hx (hb hby d1_132) (c_tlt hc11).1 (pc' := 142) (by decide) (by decide) ?_
    exact b1_142 hx hZ hw hby hml hown hnm hret hlk x0 r X eT N Z0 hr
  · rw [if_neg hc11] at hr
    refine o_icmpNo X hx (hb hby d1_132) (c_flt hc11).1 (pc' := 135) rfl ?_
    refine o_iload_n X hx (hb hby d1_135) rfl (pc' := 136) rfl ?_
    refine o_sipush X hx (hb hby d1_136) (12271 : Int32) rfl (pc' := 139) rfl ?_
    by_cases hc20 : (12271 : Int32) < x0
    · rw [if_pos hc20] at hr
      refine o_icmpNo X hx (hb hby d1_139) (c_tgt hc20).2 (pc' := 142) rfl ?_
      exact b1_142 hx hZ hw hby hml hown hnm hret hlk x0 r X eT N Z0 hr
    · rw [if_neg hc20] at hr
      refine o_icmpYes X hx (hb hby d1_139) (c_fgt hc20).2 (pc' := 191) (by decide) (by decide) ?_
      refine o_iconst X hx (hb hby d1_191) (1 : Int32) rfl (pc' := 192) rfl ?_
      refine o_goto X hx (hb hby d1_192) (pc' := 196) (by decide) (by decide) ?_
      subst hr
      exact o_retN X hx hlk (t := .boolean) (by simp) hret (hb hby d1_196) rfl ⟨rfl, N, eT⟩ (by decide) (by decide)
def f1_114 (x0 : Int32) : Int32 := (if x0 < (8304 : Int32) then (f1_128 x0) else (if (8591 : Int32) < x0 then (f1_128 x0) else (1 : Int32)))
set_option maxRecDepth 65536 in
set_option maxHeartbeats 40000000 in
theorem b1_114 {p : Program} {l : Launch} {e : Env} {s : State} {m : MethodId} {args : Array Value} {below : List Frame} {meth : Method} {c : Code} {Z : State} {a0 : Array Value} {h0 : Heap} {n0 : Nat} (hx : p.tables.exec = Jvm.exec) (hZ : Z.Warmed39 s.vm) (hw : ∀ d ∈ tables_1, d.before a0 Z = true) (hby : c.code = prog_86_method_7_code) (hml : c.maxLocals = 1) (hown : s.vm.findClass "com/example/libtreegram/libtreegram/model/XmlNames" = some m.cls) (hnm : meth.name = "isNcNameStartChar") (hret : meth.sig.returnType = some .boolean) (hlk : meth.locks = false)  {T : State} {locs : List Loc} (x0 : Int32) (r : Int32) (X : Stand p l e ({ frames := 0, cells := 0, slots := 0, locals := 0 } : Room) s m args below meth c T locs 0 0) (eT : T.heap = h0) (N : Fr n0 locs) (Z0 : n0 ≤ h0.size) (hr : f1_114 x0 = r) :
    OG p e below s (fun v h L => v = (some (.int r)) ∧ Fr n0 L ∧ h = h0) 0 0 T (mkF m 114 #[.val (.int x0)] []) := by
  have hr : (if x0 < (8304 : Int32) then (f1_128 x0) else (if (8591 : Int32) < x0 then (f1_128 x0) else (1 : Int32))) = r := hr
  refine o_iload_n X hx (hb hby d1_114) rfl (pc' := 115) rfl ?_
  refine o_sipush X hx (hb hby d1_115) (8304 : Int32) rfl (pc' := 118) rfl ?_
  by_cases hc10 : x0 < (8304 : Int32)
  · rw [if_pos hc10] at hr
    refine o_icmpYes X hx (hb hby d1_118) (c_tlt hc10).1 (pc' := 128) (by decide) (by decide) ?_
    exact b1_128 hx hZ hw hby hml hown hnm hret hlk x0 r X eT N Z0 hr
  · rw [if_neg hc10] at hr
    refine o_icmpNo X hx (hb hby d1_118) (c_flt hc10).1 (pc' := 121) rfl ?_
    refine o_iload_n X hx (hb hby d1_121) rfl (pc' := 122) rfl ?_
    refine o_sipush X hx (hb hby d1_122) (8591 : Int32) rfl (pc' := 125) rfl ?_
    by_cases hc21 : (8591 : Int32) < x0
    · rw [if_pos hc21] at hr
      refine o_icmpNo X hx (hb hby d1_125) (c_tgt hc21).2 (pc' := 128) rfl ?_
      exact b1_128 hx hZ hw hby hml hown hnm hret hlk x0 r X eT N Z0 hr
    · rw [if_neg hc21] at hr
      refine o_icmpYes X hx (hb hby d1_125) (c_fgt hc21).2 (pc' := 191) (by decide) (by decide) ?_
      refine o_iconst X hx (hb hby d1_191) (1 : Int32) rfl (pc' := 192) rfl ?_
      refine o_goto X hx (hb hby d1_192) (pc' := 196) (by decide) (by decide) ?_
      subst hr
      exact o_retN X hx hlk (t := .boolean) (by simp) hret (hb hby d1_196) rfl ⟨rfl, N, eT⟩ (by decide) (by decide)
def f1_100 (x0 : Int32) : Int32 := (if x0 < (8204 : Int32) then (f1_114 x0) else (if (8205 : Int32) < x0 then (f1_114 x0) else (1 : Int32)))
set_option maxRecDepth 65536 in
set_option maxHeartbeats 40000000 in
theorem b1_100 {p : Program} {l : Launch} {e : Env} {s : State} {m : MethodId} {args : Array Value} {below : List Frame} {meth : Method} {c : Code} {Z : State} {a0 : Array Value} {h0 : Heap} {n0 : Nat} (hx : p.tables.exec = Jvm.exec) (hZ : Z.Warmed39 s.vm) (hw : ∀ d ∈ tables_1, d.before a0 Z = true) (hby : c.code = prog_86_method_7_code) (hml : c.maxLocals = 1) (hown : s.vm.findClass "com/example/libtreegram/libtreegram/model/XmlNames" = some m.cls) (hnm : meth.name = "isNcNameStartChar") (hret : meth.sig.returnType = some .boolean) (hlk : meth.locks = false)  {T : State} {locs : List Loc} (x0 : Int32) (r : Int32) (X : Stand p l e ({ frames := 0, cells := 0, slots := 0, locals := 0 } : Room) s m args below meth c T locs 0 0) (eT : T.heap = h0) (N : Fr n0 locs) (Z0 : n0 ≤ h0.size) (hr : f1_100 x0 = r) :
    OG p e below s (fun v h L => v = (some (.int r)) ∧ Fr n0 L ∧ h = h0) 0 0 T (mkF m 100 #[.val (.int x0)] []) := by
  have hr : (if x0 < (8204 : Int32) then (f1_114 x0) else (if (8205 : Int32) < x0 then (f1_114 x0) else (1 : Int32))) = r := hr
  refine o_iload_n X hx (hb hby d1_100) rfl (pc' := 101) rfl ?_
  refine o_sipush X hx (hb hby d1_101) (8204 : Int32) rfl (pc' := 104) rfl ?_
  by_cases hc9 : x0 < (8204 : Int32)
  · rw [if_pos hc9] at hr
    refine o_icmpYes X hx (hb hby d1_104) (c_tlt hc9).1 (pc' := 114) (by decide) (by decide) ?_
    exact b1_114 hx hZ hw hby hml hown hnm hret hlk x0 r X eT N Z0 hr
  · rw [if_neg hc9] at hr
    refine o_icmpNo X hx (hb hby d1_104) (c_flt hc9).1 (pc' := 107) rfl ?_
    refine o_iload_n X hx (hb hby d1_107) rfl (pc' := 108) rfl ?_
    refine o_sipush X hx (hb hby d1_108) (8205 : Int32) rfl (pc' := 111) rfl ?_
    by_cases hc22 : (8205 : Int32) < x0
    · rw [if_pos hc22] at hr
      refine o_icmpNo X hx (hb hby d1_111) (c_tgt hc22).2 (pc' := 114) rfl ?_
      exact b1_114 hx hZ hw hby hml hown hnm hret hlk x0 r X eT N Z0 hr
    · rw [if_neg hc22] at hr
      refine o_icmpYes X hx (hb hby d1_111) (c_fgt hc22).2 (pc' := 191) (by decide) (by decide) ?_
      refine o_iconst X hx (hb hby d1_191) (1 : Int32) rfl (pc' := 192) rfl ?_
      refine o_goto X hx (hb hby d1_192) (pc' := 196) (by decide) (by decide) ?_
      subst hr
      exact o_retN X hx hlk (t := .boolean) (by simp) hret (hb hby d1_196) rfl ⟨rfl, N, eT⟩ (by decide) (by decide)
def f1_86 (x0 : Int32) : Int32 := (if x0 < (895 : Int32) then (f1_100 x0) else (if (8191 : Int32) < x0 then (f1_100 x0) else (1 : Int32)))
set_option maxRecDepth 65536 in
set_option maxHeartbeats 40000000 in
theorem b1_86 {p : Program} {l : Launch} {e : Env} {s : State} {m : MethodId} {args : Array Value} {below : List Frame} {meth : Method} {c : Code} {Z : State} {a0 : Array Value} {h0 : Heap} {n0 : Nat} (hx : p.tables.exec = Jvm.exec) (hZ : Z.Warmed39 s.vm) (hw : ∀ d ∈ tables_1, d.before a0 Z = true) (hby : c.code = prog_86_method_7_code) (hml : c.maxLocals = 1) (hown : s.vm.findClass "com/example/libtreegram/libtreegram/model/XmlNames" = some m.cls) (hnm : meth.name = "isNcNameStartChar") (hret : meth.sig.returnType = some .boolean) (hlk : meth.locks = false)  {T : State} {locs : List Loc} (x0 : Int32) (r : Int32) (X : Stand p l e ({ frames := 0, cells := 0, slots := 0, locals := 0 } : Room) s m args below meth c T locs 0 0) (eT : T.heap = h0) (N : Fr n0 locs) (Z0 : n0 ≤ h0.size) (hr : f1_86 x0 = r) :
    OG p e below s (fun v h L => v = (some (.int r)) ∧ Fr n0 L ∧ h = h0) 0 0 T (mkF m 86 #[.val (.int x0)] []) := by
  have hr : (if x0 < (895 : Int32) then (f1_100 x0) else (if (8191 : Int32) < x0 then (f1_100 x0) else (1 : Int32))) = r := hr
  refine o_iload_n X hx (hb hby d1_86) rfl (pc' := 87) rfl ?_
  refine o_sipush X hx (hb hby d1_87) (895 : Int32) rfl (pc' := 90) rfl ?_
  by_cases hc8 : x0 < (895 : Int32)
  · rw [if_pos hc8] at hr
    refine o_icmpYes X hx (hb hby d1_90) (c_tlt hc8).1 (pc' := 100) (by decide) (by decide) ?_
    exact b1_100 hx hZ hw hby hml hown hnm hret hlk x0 r X eT N Z0 hr
  · rw [if_neg hc8] at hr
    refine o_icmpNo X hx (hb hby d1_90) (c_flt hc8).1 (pc' := 93) rfl ?_
    refine o_iload_n X hx (hb hby d1_93) rfl (pc' := 94) rfl ?_
    refine o_sipush X hx (hb hby d1_94) (8191 : Int32) rfl (pc' := 97) rfl ?_
    by_cases hc23 : (8191 : Int32) < x0
    · rw [if_pos hc23] at hr
      refine o_icmpNo X hx (hb hby d1_97) (c_tgt hc23).2 (pc' := 100) rfl ?_
      exact b1_100 hx hZ hw hby hml hown hnm hret hlk x0 r X eT N Z0 hr
    · rw [if_neg hc23] at hr
      refine o_icmpYes X hx (hb hby d1_97) (c_fgt hc23).2 (pc' := 191) (by decide) (by decide) ?_
      refine o_iconst X hx (hb hby d1_191) (1 : Int32) rfl (pc' := 192) rfl ?_
      refine o_goto X hx (hb hby d1_192) (pc' := 196) (by decide) (by decide) ?_
      subst hr
      exact o_retN X hx hlk (t := .boolean) (by simp) hret (hb hby d1_196) rfl ⟨rfl, N, eT⟩ (by decide) (by decide)
def f1_72 (x0 : Int32) : Int32 := (if x0 < (880 : Int32) then (f1_86 x0) else (if (893 : Int32) < x0 then (f1_86 x0) else (1 : Int32)))
set_option maxRecDepth 65536 in
set_option maxHeartbeats 40000000 in
theorem b1_72 {p : Program} {l : Launch} {e : Env} {s : State} {m : MethodId} {args : Array Value} {below : List Frame} {meth : Method} {c : Code} {Z : State} {a0 : Array Value} {h0 : Heap} {n0 : Nat} (hx : p.tables.exec = Jvm.exec) (hZ : Z.Warmed39 s.vm) (hw : ∀ d ∈ tables_1, d.before a0 Z = true) (hby : c.code = prog_86_method_7_code) (hml : c.maxLocals = 1) (hown : s.vm.findClass "com/example/libtreegram/libtreegram/model/XmlNames" = some m.cls) (hnm : meth.name = "isNcNameStartChar") (hret : meth.sig.returnType = some .boolean) (hlk : meth.locks = false)  {T : State} {locs : List Loc} (x0 : Int32) (r : Int32) (X : Stand p l e ({ frames := 0, cells := 0, slots := 0, locals := 0 } : Room) s m args below meth c T locs 0 0) (eT : T.heap = h0) (N : Fr n0 locs) (Z0 : n0 ≤ h0.size) (hr : f1_72 x0 = r) :
    OG p e below s (fun v h L => v = (some (.int r)) ∧ Fr n0 L ∧ h = h0) 0 0 T (mkF m 72 #[.val (.int x0)] []) := by
  have hr : (if x0 < (880 : Int32) then (f1_86 x0) else (if (893 : Int32) < x0 then (f1_86 x0) else (1 : Int32))) = r := hr
  refine o_iload_n X hx (hb hby d1_72) rfl (pc' := 73) rfl ?_
  refine o_sipush X hx (hb hby d1_73) (880 : Int32) rfl (pc' := 76) rfl ?_
  by_cases hc7 : x0 < (880 : Int32)
  · rw [if_pos hc7] at hr
    refine o_icmpYes X hx (hb hby d1_76) (c_tlt hc7).1 (pc' := 86) (by decide) (by decide) ?_
    exact b1_86 hx hZ hw hby hml hown hnm hret hlk x0 r X eT N Z0 hr
  · rw [if_neg hc7] at hr
    refine o_icmpNo X hx (hb hby d1_76) (c_flt hc7).1 (pc' := 79) rfl ?_
    refine o_iload_n X hx (hb hby d1_79) rfl (pc' := 80) rfl ?_
    refine o_sipush X hx (hb hby d1_80) (893 : Int32) rfl (pc' := 83) rfl ?_
    by_cases hc24 : (893 : Int32) < x0
    · rw [if_pos hc24] at hr
      refine o_icmpNo X hx (hb hby d1_83) (c_tgt hc24).2 (pc' := 86) rfl ?_
      exact b1_86 hx hZ hw hby hml hown hnm hret hlk x0 r X eT N Z0 hr
    · rw [if_neg hc24] at hr
      refine o_icmpYes X hx (hb hby d1_83) (c_fgt hc24).2 (pc' := 191) (by decide) (by decide) ?_
      refine o_iconst X hx (hb hby d1_191) (1 : Int32) rfl (pc' := 192) rfl ?_
      refine o_goto X hx (hb hby d1_192) (pc' := 196) (by decide) (by decide) ?_
      subst hr
      exact o_retN X hx hlk (t := .boolean) (by simp) hret (hb hby d1_196) rfl ⟨rfl, N, eT⟩ (by decide) (by decide)
def f1_58 (x0 : Int32) : Int32 := (if x0 < (248 : Int32) then (f1_72 x0) else (if (767 : Int32) < x0 then (f1_72 x0) else (1 : Int32)))
set_option maxRecDepth 65536 in
set_option maxHeartbeats 40000000 in
theorem b1_58 {p : Program} {l : Launch} {e : Env} {s : State} {m : MethodId} {args : Array Value} {below : List Frame} {meth : Method} {c : Code} {Z : State} {a0 : Array Value} {h0 : Heap} {n0 : Nat} (hx : p.tables.exec = Jvm.exec) (hZ : Z.Warmed39 s.vm) (hw : ∀ d ∈ tables_1, d.before a0 Z = true) (hby : c.code = prog_86_method_7_code) (hml : c.maxLocals = 1) (hown : s.vm.findClass "com/example/libtreegram/libtreegram/model/XmlNames" = some m.cls) (hnm : meth.name = "isNcNameStartChar") (hret : meth.sig.returnType = some .boolean) (hlk : meth.locks = false)  {T : State} {locs : List Loc} (x0 : Int32) (r : Int32) (X : Stand p l e ({ frames := 0, cells := 0, slots := 0, locals := 0 } : Room) s m args below meth c T locs 0 0) (eT : T.heap = h0) (N : Fr n0 locs) (Z0 : n0 ≤ h0.size) (hr : f1_58 x0 = r) :
    OG p e below s (fun v h L => v = (some (.int r)) ∧ Fr n0 L ∧ h = h0) 0 0 T (mkF m 58 #[.val (.int x0)] []) := by
  have hr : (if x0 < (248 : Int32) then (f1_72 x0) else (if (767 : Int32) < x0 then (f1_72 x0) else (1 : Int32))) = r := hr
  refine o_iload_n X hx (hb hby d1_58) rfl (pc' := 59) rfl ?_
  refine o_sipush X hx (hb hby d1_59) (248 : Int32) rfl (pc' := 62) rfl ?_
  by_cases hc6 : x0 < (248 : Int32)
  · rw [if_pos hc6] at hr
    refine o_icmpYes X hx (hb hby d1_62) (c_tlt hc6).1 (pc' := 72) (by decide) (by decide) ?_
    exact b1_72 hx hZ hw hby hml hown hnm hret hlk x0 r X eT N Z0 hr
  · rw [if_neg hc6] at hr
    refine o_icmpNo X hx (hb hby d1_62) (c_flt hc6).1 (pc' := 65) rfl ?_
    refine o_iload_n X hx (hb hby d1_65) rfl (pc' := 66) rfl ?_
    refine o_sipush X hx (hb hby d1_66) (767 : Int32) rfl (pc' := 69) rfl ?_
    by_cases hc25 : (767 : Int32) < x0
    · rw [if_pos hc25] at hr
      refine o_icmpNo X hx (hb hby d1_69) (c_tgt hc25).2 (pc' := 72) rfl ?_
      exact b1_72 hx hZ hw hby hml hown hnm hret hlk x0 r X eT N Z0 hr
    · rw [if_neg hc25] at hr
      refine o_icmpYes X hx (hb hby d1_69) (c_fgt hc25).2 (pc' := 191) (by decide) (by decide) ?_
      refine o_iconst X hx (hb hby d1_191) (1 : Int32) rfl (pc' := 192) rfl ?_
      refine o_goto X hx (hb hby d1_192) (pc' := 196) (by decide) (by decide) ?_
      subst hr
      exact o_retN X hx hlk (t := .boolean) (by simp) hret (hb hby d1_196) rfl ⟨rfl, N, eT⟩ (by decide) (by decide)
def f1_44 (x0 : Int32) : Int32 := (if x0 < (216 : Int32) then (f1_58 x0) else (if (246 : Int32) < x0 then (f1_58 x0) else (1 : Int32)))
set_option maxRecDepth 65536 in
set_option maxHeartbeats 40000000 in
theorem b1_44 {p : Program} {l : Launch} {e : Env} {s : State} {m : MethodId} {args : Array Value} {below : List Frame} {meth : Method} {c : Code} {Z : State} {a0 : Array Value} {h0 : Heap} {n0 : Nat} (hx : p.tables.exec = Jvm.exec) (hZ : Z.Warmed39 s.vm) (hw : ∀ d ∈ tables_1, d.before a0 Z = true) (hby : c.code = prog_86_method_7_code) (hml : c.maxLocals = 1) (hown : s.vm.findClass "com/example/libtreegram/libtreegram/model/XmlNames" = some m.cls) (hnm : meth.name = "isNcNameStartChar") (hret : meth.sig.returnType = some .boolean) (hlk : meth.locks = false)  {T : State} {locs : List Loc} (x0 : Int32) (r : Int32) (X : Stand p l e ({ frames := 0, cells := 0, slots := 0, locals := 0 } : Room) s m args below meth c T locs 0 0) (eT : T.heap = h0) (N : Fr n0 locs) (Z0 : n0 ≤ h0.size) (hr : f1_44 x0 = r) :
    OG p e below s (fun v h L => v = (some (.int r)) ∧ Fr n0 L ∧ h = h0) 0 0 T (mkF m 44 #[.val (.int x0)] []) := by
  have hr : (if x0 < (216 : Int32) then (f1_58 x0) else (if (246 : Int32) < x0 then (f1_58 x0) else (1 : Int32))) = r := hr
  refine o_iload_n X hx (hb hby d1_44) rfl (pc' := 45) rfl ?_
  refine o_sipush X hx (hb hby d1_45) (216 : Int32) rfl (pc' := 48) rfl ?_
  by_cases hc5 : x0 < (216 : Int32)
  · rw [if_pos hc5] at hr
    refine o_icmpYes X hx (hb hby d1_48) (c_tlt hc5).1 (pc' := 58) (by decide) (by decide) ?_
    exact b1_58 hx hZ hw hby hml hown hnm hret hlk x0 r X eT N Z0 hr
  · rw [if_neg hc5] at hr
    refine o_icmpNo X hx (hb hby d1_48) (c_flt hc5).1 (pc' := 51) rfl ?_
    refine o_iload_n X hx (hb hby d1_51) rfl (pc' := 52) rfl ?_
    refine o_sipush X hx (hb hby d1_52) (246 : Int32) rfl (pc' := 55) rfl ?_
    by_cases hc26 : (246 : Int32) < x0
    · rw [if_pos hc26] at hr
      refine o_icmpNo X hx (hb hby d1_55) (c_tgt hc26).2 (pc' := 58) rfl ?_
      exact b1_58 hx hZ hw hby hml hown hnm hret hlk x0 r X eT N Z0 hr
    · rw [if_neg hc26] at hr
      refine o_icmpYes X hx (hb hby d1_55) (c_fgt hc26).2 (pc' := 191) (by decide) (by decide) ?_
      refine o_iconst X hx (hb hby d1_191) (1 : Int32) rfl (pc' := 192) rfl ?_
      refine o_goto X hx (hb hby d1_192) (pc' := 196) (by decide) (by decide) ?_
      subst hr
      exact o_retN X hx hlk (t := .boolean) (by simp) hret (hb hby d1_196) rfl ⟨rfl, N, eT⟩ (by decide) (by decide)
def f1_24 (x0 : Int32) : Int32 := (if x0 = (95 : Int32) then (1 : Int32) else (if x0 < (192 : Int32) then (f1_44 x0) else (if (214 : Int32) < x0 then (f1_44 x0) else (1 : Int32))))
set_option maxRecDepth 65536 in
set_option maxHeartbeats 40000000 in
theorem b1_24 {p : Program} {l : Launch} {e : Env} {s : State} {m : MethodId} {args : Array Value} {below : List Frame} {meth : Method} {c : Code} {Z : State} {a0 : Array Value} {h0 : Heap} {n0 : Nat} (hx : p.tables.exec = Jvm.exec) (hZ : Z.Warmed39 s.vm) (hw : ∀ d ∈ tables_1, d.before a0 Z = true) (hby : c.code = prog_86_method_7_code) (hml : c.maxLocals = 1) (hown : s.vm.findClass "com/example/libtreegram/libtreegram/model/XmlNames" = some m.cls) (hnm : meth.name = "isNcNameStartChar") (hret : meth.sig.returnType = some .boolean) (hlk : meth.locks = false)  {T : State} {locs : List Loc} (x0 : Int32) (r : Int32) (X : Stand p l e ({ frames := 0, cells := 0, slots := 0, locals := 0 } : Room) s m args below meth c T locs 0 0) (eT : T.heap = h0) (N : Fr n0 locs) (Z0 : n0 ≤ h0.size) (hr : f1_24 x0 = r) :
    OG p e below s (fun v h L => v = (some (.int r)) ∧ Fr n0 L ∧ h = h0) 0 0 T (mkF m 24 #[.val (.int x0)] []) := by
  have hr : (if x0 = (95 : Int32) then (1 : Int32) else (if x0 < (192 : Int32) then (f1_44 x0) else (if (214 : Int32) < x0 then (f1_44 x0) else (1 : Int32)))) = r := hr
  refine o_iload_n X hx (hb hby d1_24) rfl (pc' := 25) rfl ?_
  refine o_bipush X hx (hb hby d1_25) (95 : Int32) rfl (pc' := 27) rfl ?_
  by_cases hc3 : x0 = (95 : Int32)
  · rw [if_pos hc3] at hr
    refine o_icmpYes X hx (hb hby d1_27) (c_teq hc3).1 (pc' := 191) (by decide) (by decide) ?_
    refine o_iconst X hx (hb hby d1_191) (1 : Int32) rfl (pc' := 192) rfl ?_
    refine o_goto X hx (hb hby d1_192) (pc' := 196) (by decide) (by decide) ?_
    subst hr
    exact o_retN X hx hlk (t := .boolean) (by simp) hret (hb hby d1_196) rfl ⟨rfl, N, eT⟩ (by decide) (by decide)
  · rw [if_neg hc3] at hr
    refine o_icmpNo X hx (hb hby d1_27) (c_feq hc3).1 (pc' := 30) rfl ?_
    refine o_iload_n X hx (hb hby d1_30) rfl (pc' := 31) rfl ?_
    refine o_sipush X hx (hb hby d1_31) (192 : Int32) rfl (pc' := 34) rfl ?_
    by_cases hc4 : x0 < (192 : Int32)
    · rw [if_pos hc4] at hr
      refine o_icmpYes X hx (hb hby d1_34) (c_tlt hc4).1 (pc' := 44) (by decide) (by decide) ?_
      exact b1_44 hx hZ hw hby hml hown hnm hret hlk x0 r X eT N Z0 hr
    · rw [if_neg hc4] at hr
      refine o_icmpNo X hx (hb hby d1_34) (c_flt hc4).1 (pc' := 37) rfl ?_
      refine o_iload_n X hx (hb hby d1_37) rfl (pc' := 38) rfl ?_
      refine o_sipush X hx (hb hby d1_38) (214 : Int32) rfl (pc' := 41) rfl ?_
      by_cases hc27 : (214 : Int32) < x0
      · rw [if_pos hc27] at hr
        refine o_icmpNo X hx (hb hby d1_41) (c_tgt hc27).2 (pc' := 44) rfl ?_
        exact b1_44 hx hZ hw hby hml hown hnm hret hlk x0 r X eT N Z0 hr
      · rw [if_neg hc27] at hr
        refine o_icmpYes X hx (hb hby d1_41) (c_fgt hc27).2 (pc' := 191) (by decide) (by decide) ?_
        refine o_iconst X hx (hb hby d1_191) (1 : Int32) rfl (pc' := 192) rfl ?_
        refine o_goto X hx (hb hby d1_192) (pc' := 196) (by decide) (by decide) ?_
        subst hr
        exact o_retN X hx hlk (t := .boolean) (by simp) hret (hb hby d1_196) rfl ⟨rfl, N, eT⟩ (by decide) (by decide)
def f1_12 (x0 : Int32) : Int32 := (if x0 < (65 : Int32) then (f1_24 x0) else (if (90 : Int32) < x0 then (f1_24 x0) else (1 : Int32)))
set_option maxRecDepth 65536 in
set_option maxHeartbeats 40000000 in
theorem b1_12 {p : Program} {l : Launch} {e : Env} {s : State} {m : MethodId} {args : Array Value} {below : List Frame} {meth : Method} {c : Code} {Z : State} {a0 : Array Value} {h0 : Heap} {n0 : Nat} (hx : p.tables.exec = Jvm.exec) (hZ : Z.Warmed39 s.vm) (hw : ∀ d ∈ tables_1, d.before a0 Z = true) (hby : c.code = prog_86_method_7_code) (hml : c.maxLocals = 1) (hown : s.vm.findClass "com/example/libtreegram/libtreegram/model/XmlNames" = some m.cls) (hnm : meth.name = "isNcNameStartChar") (hret : meth.sig.returnType = some .boolean) (hlk : meth.locks = false)  {T : State} {locs : List Loc} (x0 : Int32) (r : Int32) (X : Stand p l e ({ frames := 0, cells := 0, slots := 0, locals := 0 } : Room) s m args below meth c T locs 0 0) (eT : T.heap = h0) (N : Fr n0 locs) (Z0 : n0 ≤ h0.size) (hr : f1_12 x0 = r) :
    OG p e below s (fun v h L => v = (some (.int r)) ∧ Fr n0 L ∧ h = h0) 0 0 T (mkF m 12 #[.val (.int x0)] []) := by
  have hr : (if x0 < (65 : Int32) then (f1_24 x0) else (if (90 : Int32) < x0 then (f1_24 x0) else (1 : Int32))) = r := hr
  refine o_iload_n X hx (hb hby d1_12) rfl (pc' := 13) rfl ?_
  refine o_bipush X hx (hb hby d1_13) (65 : Int32) rfl (pc' := 15) rfl ?_
  by_cases hc2 : x0 < (65 : Int32)
  · rw [if_pos hc2] at hr
    refine o_icmpYes X hx (hb hby d1_15) (c_tlt hc2).1 (pc' := 24) (by decide) (by decide) ?_
    exact b1_24 hx hZ hw hby hml hown hnm hret hlk x0 r X eT N Z0 hr
  · rw [if_neg hc2] at hr
    refine o_icmpNo X hx (hb hby d1_15) (c_flt hc2).1 (pc' := 18) rfl ?_
    refine o_iload_n X hx (hb hby d1_18) rfl (pc' := 19) rfl ?_
    refine o_bipush X hx (hb hby d1_19) (90 : Int32) rfl (pc' := 21) rfl ?_
    by_cases hc28 : (90 : Int32) < x0
    · rw [if_pos hc28] at hr
      refine o_icmpNo X hx (hb hby d1_21) (c_tgt hc28).2 (pc' := 24) rfl ?_
      exact b1_24 hx hZ hw hby hml hown hnm hret hlk x0 r X eT N Z0 hr
    · rw [if_neg hc28] at hr
      refine o_icmpYes X hx (hb hby d1_21) (c_fgt hc28).2 (pc' := 191) (by decide) (by decide) ?_
      refine o_iconst X hx (hb hby d1_191) (1 : Int32) rfl (pc' := 192) rfl ?_
      refine o_goto X hx (hb hby d1_192) (pc' := 196) (by decide) (by decide) ?_
      subst hr
      exact o_retN X hx hlk (t := .boolean) (by simp) hret (hb hby d1_196) rfl ⟨rfl, N, eT⟩ (by decide) (by decide)
def f1_0 (x0 : Int32) : Int32 := (if x0 < (97 : Int32) then (f1_12 x0) else (if (122 : Int32) < x0 then (f1_12 x0) else (1 : Int32)))
set_option maxRecDepth 65536 in
set_option maxHeartbeats 40000000 in
theorem b1_0 {p : Program} {l : Launch} {e : Env} {s : State} {m : MethodId} {args : Array Value} {below : List Frame} {meth : Method} {c : Code} {Z : State} {a0 : Array Value} {h0 : Heap} {n0 : Nat} (hx : p.tables.exec = Jvm.exec) (hZ : Z.Warmed39 s.vm) (hw : ∀ d ∈ tables_1, d.before a0 Z = true) (hby : c.code = prog_86_method_7_code) (hml : c.maxLocals = 1) (hown : s.vm.findClass "com/example/libtreegram/libtreegram/model/XmlNames" = some m.cls) (hnm : meth.name = "isNcNameStartChar") (hret : meth.sig.returnType = some .boolean) (hlk : meth.locks = false)  {T : State} {locs : List Loc} (x0 : Int32) (r : Int32) (X : Stand p l e ({ frames := 0, cells := 0, slots := 0, locals := 0 } : Room) s m args below meth c T locs 0 0) (eT : T.heap = h0) (N : Fr n0 locs) (Z0 : n0 ≤ h0.size) (hr : f1_0 x0 = r) :
    OG p e below s (fun v h L => v = (some (.int r)) ∧ Fr n0 L ∧ h = h0) 0 0 T (mkF m 0 #[.val (.int x0)] []) := by
  have hr : (if x0 < (97 : Int32) then (f1_12 x0) else (if (122 : Int32) < x0 then (f1_12 x0) else (1 : Int32))) = r := hr
  refine o_iload_n X hx (hb hby d1_0) rfl (pc' := 1) rfl ?_
  refine o_bipush X hx (hb hby d1_1) (97 : Int32) rfl (pc' := 3) rfl ?_
  by_cases hc1 : x0 < (97 : Int32)
  · rw [if_pos hc1] at hr
    refine o_icmpYes X hx (hb hby d1_3) (c_tlt hc1).1 (pc' := 12) (by decide) (by decide) ?_
    exact b1_12 hx hZ hw hby hml hown hnm hret hlk x0 r X eT N Z0 hr
  · rw [if_neg hc1] at hr
    refine o_icmpNo X hx (hb hby d1_3) (c_flt hc1).1 (pc' := 6) rfl ?_
    refine o_iload_n X hx (hb hby d1_6) rfl (pc' := 7) rfl ?_
    refine o_bipush X hx (hb hby d1_7) (122 : Int32) rfl (pc' := 9) rfl ?_
    by_cases hc29 : (122 : Int32) < x0
    · rw [if_pos hc29] at hr
      refine o_icmpNo X hx (hb hby d1_9) (c_tgt hc29).2 (pc' := 12) rfl ?_
      exact b1_12 hx hZ hw hby hml hown hnm hret hlk x0 r X eT N Z0 hr
    · rw [if_neg hc29] at hr
      refine o_icmpYes X hx (hb hby d1_9) (c_fgt hc29).2 (pc' := 191) (by decide) (by decide) ?_
      refine o_iconst X hx (hb hby d1_191) (1 : Int32) rfl (pc' := 192) rfl ?_
      refine o_goto X hx (hb hby d1_192) (pc' := 196) (by decide) (by decide) ?_
      subst hr
      exact o_retN X hx hlk (t := .boolean) (by simp) hret (hb hby d1_196) rfl ⟨rfl, N, eT⟩ (by decide) (by decide)
theorem pn_1 : plainName "com/example/libtreegram/libtreegram/model/XmlNames" = true := by first | (simp [plainName, overriddenIn]; done) | decide +kernel
theorem ef_1 (m : MethodId) (x0 : Int32) : entryFrame m #[(.int x0)] 1 = (mkF m 0 #[.val (.int x0)] []) := by first | (simp [entryFrame, mkF, argsToLocals, Value.category]; done) | rfl
def Qd1 (Z : State) (h0 : Heap) (n0 : Nat) (x0 : Int32) (r : Int32) : Option Value → Heap → List Loc → Prop := (fun v h L => v = (some (.int r)) ∧ Fr n0 L ∧ h = h0)
set_option maxRecDepth 65536 in
set_option maxHeartbeats 40000000 in
theorem rm1 (l : Launch) (Z : State) (a0 : Array Value) (hw : ∀ d ∈ tables_1, d.before a0 Z = true) (ws : List Jvm.Cond) (x0 : Int32) (h0 : Heap) (n0 : Nat) (Z0 : n0 ≤ h0.size) (r : Int32) (hr : f1_0 x0 = r) :
    MetFree l (⟨"com/example/libtreegram/libtreegram/model/XmlNames", "isNcNameStartChar", "(I)Z"⟩ : MethodName) (head1 (Jvm.Cond.code (⟨"com/example/libtreegram/libtreegram/model/XmlNames", "isNcNameStartChar", "(I)Z"⟩ : MethodName) prog_86_method_7_code 1 (some .boolean) :: ws) ({ frames := 0, cells := 0, slots := 0, locals := 0 } : Room)) (fun a U => a = #[(.int x0)] ∧ Z.Warmed39 U.vm ∧ U.heap = h0) (fun _ _ _ _ _ => True) (fun _ U o U' => ∃ v L, o = .returned v ∧ (Qd1 Z h0 n0 x0 r) v U'.heap L ∧ FrameEnd U o U' L ({ frames := 0, cells := 0, slots := 0, locals := 0 } : Room).cells ({ frames := 0, cells := 0, slots := 0, locals := 0 } : Room).slots) := by
  refine MetFree.of_bodySF (plainFor_of_name pn_1) hisR ?_
  intro p e s m args below meth c s₁ Bd hml0 hP hK
  obtain ⟨rfl, hZ, hh⟩ := hP
  have e0 : s₁.heap = h0 := by rw [← hh, Bd.state]; rfl
  exact OG.cast (ef_1 m x0) (b1_0 Bd.exec hZ hw Bd.bytes hml0 (findClass_of_methodNamed Bd.named) (name_of_methodNamed Bd.named Bd.method).1 Bd.returns Bd.notSynchronized x0 r (Stand.of_body Bd) e0 (Fr.nil n0) Z0 hr)
theorem d2_0 : decode method_2_code 0 = .ok (.iload_n 0, 1) := by decide +kernel
theorem d2_1 : decode method_2_code 1 = .ok (.bipush 65, 2) := by decide +kernel
theorem d2_3 : decode method_2_code 3 = .ok (.if_icmp .lt 167, 3) := by decide +kernel
theorem d2_170 : decode method_2_code 170 = .ok (.iconst 1, 1) := by decide +kernel
theorem d2_171 : decode method_2_code 171 = .ok (.goto 4, 3) := by decide +kernel
theorem d2_175 : decode method_2_code 175 = .ok (.ireturn, 1) := by decide +kernel
theorem d2_6 : decode method_2_code 6 = .ok (.iload_n 0, 1) := by decide +kernel
theorem d2_7 : decode method_2_code 7 = .ok (.bipush 90, 2) := by decide +kernel
theorem d2_9 : decode method_2_code 9 = .ok (.if_icmp .le 15, 3) := by decide +kernel
theorem d2_12 : decode method_2_code 12 = .ok (.iload_n 0, 1) := by decide +kernel
theorem d2_13 : decode method_2_code 13 = .ok (.bipush 97, 2) := by decide +kernel
theorem d2_15 : decode method_2_code 15 = .ok (.if_icmp .ge 9, 3) := by decide +kernel
theorem d2_18 : decode method_2_code 18 = .ok (.iload_n 0, 1) := by decide +kernel
theorem d2_19 : decode method_2_code 19 = .ok (.bipush 95, 2) := by decide +kernel
theorem d2_21 : decode method_2_code 21 = .ok (.if_icmp .ne 149, 3) := by decide +kernel
theorem d2_24 : decode method_2_code 24 = .ok (.iload_n 0, 1) := by decide +kernel
theorem d2_25 : decode method_2_code 25 = .ok (.bipush 122, 2) := by decide +kernel
theorem d2_27 : decode method_2_code 27 = .ok (.if_icmp .le 10, 3) := by decide +kernel
theorem d2_30 : decode method_2_code 30 = .ok (.iload_n 0, 1) := by decide +kernel
theorem d2_31 : decode method_2_code 31 = .ok (.sipush 192, 3) := by decide +kernel
theorem d2_34 : decode method_2_code 34 = .ok (.if_icmp .lt 136, 3) := by decide +kernel
theorem d2_37 : decode method_2_code 37 = .ok (.iload_n 0, 1) := by decide +kernel
theorem d2_38 : decode method_2_code 38 = .ok (.sipush 215, 3) := by decide +kernel
theorem d2_41 : decode method_2_code 41 = .ok (.if_icmp .eq 129, 3) := by decide +kernel
theorem d2_44 : decode method_2_code 44 = .ok (.iload_n 0, 1) := by decide +kernel
theorem d2_45 : decode method_2_code 45 = .ok (.sipush 247, 3) := by decide +kernel
theorem d2_48 : decode method_2_code 48 = .ok (.if_icmp .eq 122, 3) := by decide +kernel
theorem d2_51 : decode method_2_code 51 = .ok (.iload_n 0, 1) := by decide +kernel
theorem d2_52 : decode method_2_code 52 = .ok (.sipush 767, 3) := by decide +kernel
theorem d2_55 : decode method_2_code 55 = .ok (.if_icmp .le 10, 3) := by decide +kernel
theorem d2_58 : decode method_2_code 58 = .ok (.iload_n 0, 1) := by decide +kernel
theorem d2_59 : decode method_2_code 59 = .ok (.sipush 880, 3) := by decide +kernel
theorem d2_62 : decode method_2_code 62 = .ok (.if_icmp .lt 108, 3) := by decide +kernel
theorem d2_65 : decode method_2_code 65 = .ok (.iload_n 0, 1) := by decide +kernel
theorem d2_66 : decode method_2_code 66 = .ok (.sipush 894, 3) := by decide +kernel
theorem d2_69 : decode method_2_code 69 = .ok (.if_icmp .eq 101, 3) := by decide +kernel
theorem d2_72 : decode method_2_code 72 = .ok (.iload_n 0, 1) := by decide +kernel
theorem d2_73 : decode method_2_code 73 = .ok (.sipush 8191, 3) := by decide +kernel
theorem d2_76 : decode method_2_code 76 = .ok (.if_icmp .le 10, 3) := by decide +kernel
theorem d2_79 : decode method_2_code 79 = .ok (.iload_n 0, 1) := by decide +kernel
theorem d2_80 : decode method_2_code 80 = .ok (.sipush 8204, 3) := by decide +kernel
theorem d2_83 : decode method_2_code 83 = .ok (.if_icmp .lt 87, 3) := by decide +kernel
theorem d2_86 : decode method_2_code 86 = .ok (.iload_n 0, 1) := by decide +kernel
theorem d2_87 : decode method_2_code 87 = .ok (.sipush 8205, 3) := by decide +kernel
theorem d2_90 : decode method_2_code 90 = .ok (.if_icmp .le 10, 3) := by decide +kernel
theorem d2_93 : decode method_2_code 93 = .ok (.iload_n 0, 1) := by decide +kernel
theorem d2_94 : decode method_2_code 94 = .ok (.sipush 8304, 3) := by decide +kernel
theorem d2_97 : decode method_2_code 97 = .ok (.if_icmp .lt 73, 3) := by decide +kernel
theorem d2_100 : decode method_2_code 100 = .ok (.iload_n 0, 1) := by decide +kernel
theorem d2_101 : decode method_2_code 101 = .ok (.sipush 8591, 3) := by decide +kernel
theorem d2_104 : decode method_2_code 104 = .ok (.if_icmp .le 10, 3) := by decide +kernel
theorem d2_107 : decode method_2_code 107 = .ok (.iload_n 0, 1) := by decide +kernel
theorem d2_108 : decode method_2_code 108 = .ok (.sipush 11264, 3) := by decide +kernel
theorem d2_111 : decode method_2_code 111 = .ok (.if_icmp .lt 59, 3) := by decide +kernel
theorem d2_114 : decode method_2_code 114 = .ok (.iload_n 0, 1) := by decide +kernel
theorem d2_115 : decode method_2_code 115 = .ok (.sipush 12271, 3) := by decide +kernel
theorem d2_118 : decode method_2_code 118 = .ok (.if_icmp .le 10, 3) := by decide +kernel
theorem d2_121 : decode method_2_code 121 = .ok (.iload_n 0, 1) := by decide +kernel
theorem d2_122 : decode method_2_code 122 = .ok (.sipush 12289, 3) := by decide +kernel
theorem d2_125 : decode method_2_code 125 = .ok (.if_icmp .lt 45, 3) := by decide +kernel
theorem d2_128 : decode method_2_code 128 = .ok (.iload_n 0, 1) := by decide +kernel
theorem d2_129 : decode method_2_code 129 = .ok (.ldc 7, 2) := by decide +kernel
theorem d2_131 : decode method_2_code 131 = .ok (.if_icmp .le 9, 3) := by decide +kernel
theorem d2_134 : decode method_2_code 134 = .ok (.iload_n 0, 1) := by decide +kernel
theorem d2_135 : decode method_2_code 135 = .ok (.ldc 8, 2) := by decide +kernel
theorem d2_137 : decode method_2_code 137 = .ok (.if_icmp .lt 33, 3) := by decide +kernel
theorem d2_140 : decode method_2_code 140 = .ok (.iload_n 0, 1) := by decide +kernel
theorem d2_141 : decode method_2_code 141 = .ok (.ldc 9, 2) := by decide +kernel
theorem d2_143 : decode method_2_code 143 = .ok (.if_icmp .le 9, 3) := by decide +kernel
theorem d2_146 : decode method_2_code 146 = .ok (.iload_n 0, 1) := by decide +kernel
theorem d2_147 : decode method_2_code 147 = .ok (.ldc 10, 2) := by decide +kernel
theorem d2_149 : decode method_2_code 149 = .ok (.if_icmp .lt 21, 3) := by decide +kernel
theorem d2_152 : decode method_2_code 152 = .ok (.iload_n 0, 1) := by decide +kernel
theorem d2_153 : decode method_2_code 153 = .ok (.ldc 11, 2) := by decide +kernel
theorem d2_155 : decode method_2_code 155 = .ok (.if_icmp .le 9, 3) := by decide +kernel
theorem d2_158 : decode method_2_code 158 = .ok (.iload_n 0, 1) := by decide +kernel
theorem d2_159 : decode method_2_code 159 = .ok (.ldc 12, 2) := by decide +kernel
theorem d2_161 : decode method_2_code 161 = .ok (.if_icmp .lt 9, 3) := by decide +kernel
theorem d2_164 : decode method_2_code 164 = .ok (.iload_n 0, 1) := by decide +kernel
theorem d2_165 : decode method_2_code 165 = .ok (.ldc 13, 2) := by decide +kernel
theorem d2_167 : decode method_2_code 167 = .ok (.if_icmp .le 7, 3) := by decide +kernel
theorem d2_174 : decode method_2_code 174 = .ok (.iconst 0, 1) := by decide +kernel
def f2_164 (x0 : Int32) : Int32 := (if (983039 : Int32) < x0 then (1 : Int32) else (0 : Int32))
set_option maxRecDepth 65536 in
set_option maxHeartbeats 40000000 in
theorem b2_164 {p : Program} {l : Launch} {e : Env} {s : State} {m : MethodId} {args : Array Value} {below : List Frame} {meth : Method} {c : Code} {Z : State} {a0 : Array Value} {h0 : Heap} {n0 : Nat} (hx : p.tables.exec = Jvm.exec) (hZ : Z.Warmed39 s.vm) (hw : ∀ d ∈ tables_1, d.before a0 Z = true) (hby : c.code = method_2_code) (hml : c.maxLocals = 1) (hown : s.vm.findClass "com/example/libtreegram/libtreegram/model/XmlNamesIsNcNameStartCharPinLaw" = some m.cls) (hnm : meth.name = "excluded") (hret : meth.sig.returnType = some .boolean) (hlk : meth.locks = false)  {T : State} {locs : List Loc} (x0 : Int32) (r : Int32) (X : Stand p l e ({ frames := 0, cells := 0, slots := 0, locals := 0 } : Room) s m args below meth c T locs 0 0) (eT : T.heap = h0) (N : Fr n0 locs) (Z0 : n0 ≤ h0.size) (hr : f2_164 x0 = r) :
    OG p e below s (fun v h L => v = (some (.int r)) ∧ Fr n0 L ∧ h = h0) 0 0 T (mkF m 164 #[.val (.int x0)] []) := by
  have hr : (if (983039 : Int32) < x0 then (1 : Int32) else (0 : Int32)) = r := hr
  refine o_iload_n X hx (hb hby d2_164) rfl (pc' := 165) rfl ?_
  refine o_ldcInt X hx hZ hown (hb hby d2_165) (hw _ (List.mem_of_getElem? (i := 7) rfl)) (pc' := 167) rfl ?_
  by_cases hc26 : (983039 : Int32) < x0
  · rw [if_pos hc26] at hr
    refine o_icmpNo X hx (hb hby d2_167) (c_tgt hc26).2 (pc' := 170) rfl ?_
    refine o_iconst X hx (hb hby d2_170) (1 : Int32) rfl (pc' := 171) rfl ?_
    refine o_goto X hx (hb hby d2_171) (pc' := 175) (by decide) (by decide) ?_
    subst hr
    exact o_retN X hx hlk (t := .boolean) (by simp) hret (hb hby d2_175) rfl ⟨rfl, N, eT⟩ (by decide) (by decide)
  · rw [if_neg hc26] at hr
    refine o_icmpYes X hx (hb hby d2_167) (c_fgt hc26).2 (pc' := 174) (by decide) (by decide) ?_
    refine o_iconst X hx (hb hby d2_174) (0 : Int32) rfl (pc' := 175) rfl ?_
    subst hr
    exact o_retN X hx hlk (t := .boolean) (by simp) hret (hb hby d2_175) rfl ⟨rfl, N, eT⟩ (by decide) (by decide)
def f2_152 (x0 : Int32) : Int32 := (if (65533 : Int32) < x0 then (if x0 < (65536 : Int32) then (1 : Int32) else (f2_164 x0)) else (f2_164 x0))
set_option maxRecDepth 65536 in
set_option maxHeartbeats 40000000 in
theorem b2_152 {p : Program} {l : Launch} {e : Env} {s : State} {m : MethodId} {args : Array Value} {below : List Frame} {meth : Method} {c : Code} {Z : State} {a0 : Array Value} {h0 : Heap} {n0 : Nat} (hx : p.tables.exec = Jvm.exec) (hZ : Z.Warmed39 s.vm) (hw : ∀ d ∈ tables_1, d.before a0 Z = true) (hby : c.code = method_2_code) (hml : c.maxLocals = 1) (hown : s.vm.findClass "com/example/libtreegram/libtreegram/model/XmlNamesIsNcNameStartCharPinLaw" = some m.cls) (hnm : meth.name = "excluded") (hret : meth.sig.returnType = some .boolean) (hlk : meth.locks = false)  {T : State} {locs : List Loc} (x0 : Int32) (r : Int32) (X : Stand p l e ({ frames := 0, cells := 0, slots := 0, locals := 0 } : Room) s m args below meth c T locs 0 0) (eT : T.heap = h0) (N : Fr n0 locs) (Z0 : n0 ≤ h0.size) (hr : f2_152 x0 = r) :
    OG p e below s (fun v h L => v = (some (.int r)) ∧ Fr n0 L ∧ h = h0) 0 0 T (mkF m 152 #[.val (.int x0)] []) := by
  have hr : (if (65533 : Int32) < x0 then (if x0 < (65536 : Int32) then (1 : Int32) else (f2_164 x0)) else (f2_164 x0)) = r := hr
  refine o_iload_n X hx (hb hby d2_152) rfl (pc' := 153) rfl ?_
  refine o_ldcInt X hx hZ hown (hb hby d2_153) (hw _ (List.mem_of_getElem? (i := 5) rfl)) (pc' := 155) rfl ?_
  by_cases hc24 : (65533 : Int32) < x0
  · rw [if_pos hc24] at hr
    refine o_icmpNo X hx (hb hby d2_155) (c_tgt hc24).2 (pc' := 158) rfl ?_
    refine o_iload_n X hx (hb hby d2_158) rfl (pc' := 159) rfl ?_
    refine o_ldcInt X hx hZ hown (hb hby d2_159) (hw _ (List.mem_of_getElem? (i := 6) rfl)) (pc' := 161) rfl ?_
    by_cases hc25 : x0 < (65536 : Int32)
    · rw [if_pos hc25] at hr
      refine o_icmpYes X hx (hb hby d2_161) (c_tlt hc25).1 (pc' := 170) (by decide) (by decide) ?_
      refine o_iconst X hx (hb hby d2_170) (1 : Int32) rfl (pc' := 171) rfl ?_
      refine o_goto X hx (hb hby d2_171) (pc' := 175) (by decide) (by decide) ?_
      subst hr
      exact o_retN X hx hlk (t := .boolean) (by simp) hret (hb hby d2_175) rfl ⟨rfl, N, eT⟩ (by decide) (by decide)
    · rw [if_neg hc25] at hr
      refine o_icmpNo X hx (hb hby d2_161) (c_flt hc25).1 (pc' := 164) rfl ?_
      exact b2_164 hx hZ hw hby hml hown hnm hret hlk x0 r X eT N Z0 hr
  · rw [if_neg hc24] at hr
    refine o_icmpYes X hx (hb hby d2_155) (c_fgt hc24).2 (pc' := 164) (by decide) (by decide) ?_
    exact b2_164 hx hZ hw hby hml hown hnm hret hlk x0 r X eT N Z0 hr
def f2_140 (x0 : Int32) : Int32 := (if (64975 : Int32) < x0 then (if x0 < (65008 : Int32) then (1 : Int32) else (f2_152 x0)) else (f2_152 x0))
set_option maxRecDepth 65536 in
set_option maxHeartbeats 40000000 in
theorem b2_140 {p : Program} {l : Launch} {e : Env} {s : State} {m : MethodId} {args : Array Value} {below : List Frame} {meth : Method} {c : Code} {Z : State} {a0 : Array Value} {h0 : Heap} {n0 : Nat} (hx : p.tables.exec = Jvm.exec) (hZ : Z.Warmed39 s.vm) (hw : ∀ d ∈ tables_1, d.before a0 Z = true) (hby : c.code = method_2_code) (hml : c.maxLocals = 1) (hown : s.vm.findClass "com/example/libtreegram/libtreegram/model/XmlNamesIsNcNameStartCharPinLaw" = some m.cls) (hnm : meth.name = "excluded") (hret : meth.sig.returnType = some .boolean) (hlk : meth.locks = false)  {T : State} {locs : List Loc} (x0 : Int32) (r : Int32) (X : Stand p l e ({ frames := 0, cells := 0, slots := 0, locals := 0 } : Room) s m args below meth c T locs 0 0) (eT : T.heap = h0) (N : Fr n0 locs) (Z0 : n0 ≤ h0.size) (hr : f2_140 x0 = r) :
    OG p e below s (fun v h L => v = (some (.int r)) ∧ Fr n0 L ∧ h = h0) 0 0 T (mkF m 140 #[.val (.int x0)] []) := by
  have hr : (if (64975 : Int32) < x0 then (if x0 < (65008 : Int32) then (1 : Int32) else (f2_152 x0)) else (f2_152 x0)) = r := hr
  refine o_iload_n X hx (hb hby d2_140) rfl (pc' := 141) rfl ?_
  refine o_ldcInt X hx hZ hown (hb hby d2_141) (hw _ (List.mem_of_getElem? (i := 3) rfl)) (pc' := 143) rfl ?_
  by_cases hc22 : (64975 : Int32) < x0
  · rw [if_pos hc22] at hr
    refine o_icmpNo X hx (hb hby d2_143) (c_tgt hc22).2 (pc' := 146) rfl ?_
    refine o_iload_n X hx (hb hby d2_146) rfl (pc' := 147) rfl ?_
    refine o_ldcInt X hx hZ hown (hb hby d2_147) (hw _ (List.mem_of_getElem? (i := 4) rfl)) (pc' := 149) rfl ?_
    by_cases hc23 : x0 < (65008 : Int32)
    · rw [if_pos hc23] at hr
      refine o_icmpYes X hx (hb hby d2_149) (c_tlt hc23).1 (pc' := 170) (by decide) (by decide) ?_
      refine o_iconst X hx (hb hby d2_170) (1 : Int32) rfl (pc' := 171) rfl ?_
      refine o_goto X hx (hb hby d2_171) (pc' := 175) (by decide) (by decide) ?_
      subst hr
      exact o_retN X hx hlk (t := .boolean) (by simp) hret (hb hby d2_175) rfl ⟨rfl, N, eT⟩ (by decide) (by decide)
    · rw [if_neg hc23] at hr
      refine o_icmpNo X hx (hb hby d2_149) (c_flt hc23).1 (pc' := 152) rfl ?_
      exact b2_152 hx hZ hw hby hml hown hnm hret hlk x0 r X eT N Z0 hr
  · rw [if_neg hc22] at hr
    refine o_icmpYes X hx (hb hby d2_143) (c_fgt hc22).2 (pc' := 152) (by decide) (by decide) ?_
    exact b2_152 hx hZ hw hby hml hown hnm hret hlk x0 r X eT N Z0 hr
def f2_128 (x0 : Int32) : Int32 := (if (55295 : Int32) < x0 then (if x0 < (63744 : Int32) then (1 : Int32) else (f2_140 x0)) else (f2_140 x0))
set_option maxRecDepth 65536 in
set_option maxHeartbeats 40000000 in
theorem b2_128 {p : Program} {l : Launch} {e : Env} {s : State} {m : MethodId} {args : Array Value} {below : List Frame} {meth : Method} {c : Code} {Z : State} {a0 : Array Value} {h0 : Heap} {n0 : Nat} (hx : p.tables.exec = Jvm.exec) (hZ : Z.Warmed39 s.vm) (hw : ∀ d ∈ tables_1, d.before a0 Z = true) (hby : c.code = method_2_code) (hml : c.maxLocals = 1) (hown : s.vm.findClass "com/example/libtreegram/libtreegram/model/XmlNamesIsNcNameStartCharPinLaw" = some m.cls) (hnm : meth.name = "excluded") (hret : meth.sig.returnType = some .boolean) (hlk : meth.locks = false)  {T : State} {locs : List Loc} (x0 : Int32) (r : Int32) (X : Stand p l e ({ frames := 0, cells := 0, slots := 0, locals := 0 } : Room) s m args below meth c T locs 0 0) (eT : T.heap = h0) (N : Fr n0 locs) (Z0 : n0 ≤ h0.size) (hr : f2_128 x0 = r) :
    OG p e below s (fun v h L => v = (some (.int r)) ∧ Fr n0 L ∧ h = h0) 0 0 T (mkF m 128 #[.val (.int x0)] []) := by
  have hr : (if (55295 : Int32) < x0 then (if x0 < (63744 : Int32) then (1 : Int32) else (f2_140 x0)) else (f2_140 x0)) = r := hr
  refine o_iload_n X hx (hb hby d2_128) rfl (pc' := 129) rfl ?_
  refine o_ldcInt X hx hZ hown (hb hby d2_129) (hw _ (List.mem_of_getElem? (i := 1) rfl)) (pc' := 131) rfl ?_
  by_cases hc20 : (55295 : Int32) < x0
  · rw [if_pos hc20] at hr
    refine o_icmpNo X hx (hb hby d2_131) (c_tgt hc20).2 (pc' := 134) rfl ?_
    refine o_iload_n X hx (hb hby d2_134) rfl (pc' := 135) rfl ?_
    refine o_ldcInt X hx hZ hown (hb hby d2_135) (hw _ (List.mem_of_getElem? (i := 2) rfl)) (pc' := 137) rfl ?_
    by_cases hc21 : x0 < (63744 : Int32)
    · rw [if_pos hc21] at hr
      refine o_icmpYes X hx (hb hby d2_137) (c_tlt hc21).1 (pc' := 170) (by decide) (by decide) ?_
      refine o_iconst X hx (hb hby d2_170) (1 : Int32) rfl (pc' := 171) rfl ?_
      refine o_goto X hx (hb hby d2_171) (pc' := 175) (by decide) (by decide) ?_
      subst hr
      exact o_retN X hx hlk (t := .boolean) (by simp) hret (hb hby d2_175) rfl ⟨rfl, N, eT⟩ (by decide) (by decide)
    · rw [if_neg hc21] at hr
      refine o_icmpNo X hx (hb hby d2_137) (c_flt hc21).1 (pc' := 140) rfl ?_
      exact b2_140 hx hZ hw hby hml hown hnm hret hlk x0 r X eT N Z0 hr
  · rw [if_neg hc20] at hr
    refine o_icmpYes X hx (hb hby d2_131) (c_fgt hc20).2 (pc' := 140) (by decide) (by decide) ?_
    exact b2_140 hx hZ hw hby hml hown hnm hret hlk x0 r X eT N Z0 hr
def f2_114 (x0 : Int32) : Int32 := (if (12271 : Int32) < x0 then (if x0 < (12289 : Int32) then (1 : Int32) else (f2_128 x0)) else (f2_128 x0))
set_option maxRecDepth 65536 in
set_option maxHeartbeats 40000000 in
theorem b2_114 {p : Program} {l : Launch} {e : Env} {s : State} {m : MethodId} {args : Array Value} {below : List Frame} {meth : Method} {c : Code} {Z : State} {a0 : Array Value} {h0 : Heap} {n0 : Nat} (hx : p.tables.exec = Jvm.exec) (hZ : Z.Warmed39 s.vm) (hw : ∀ d ∈ tables_1, d.before a0 Z = true) (hby : c.code = method_2_code) (hml : c.maxLocals = 1) (hown : s.vm.findClass "com/example/libtreegram/libtreegram/model/XmlNamesIsNcNameStartCharPinLaw" = some m.cls) (hnm : meth.name = "excluded") (hret : meth.sig.returnType = some .boolean) (hlk : meth.locks = false)  {T : State} {locs : List Loc} (x0 : Int32) (r : Int32) (X : Stand p l e ({ frames := 0, cells := 0, slots := 0, locals := 0 } : Room) s m args below meth c T locs 0 0) (eT : T.heap = h0) (N : Fr n0 locs) (Z0 : n0 ≤ h0.size) (hr : f2_114 x0 = r) :
    OG p e below s (fun v h L => v = (some (.int r)) ∧ Fr n0 L ∧ h = h0) 0 0 T (mkF m 114 #[.val (.int x0)] []) := by
  have hr : (if (12271 : Int32) < x0 then (if x0 < (12289 : Int32) then (1 : Int32) else (f2_128 x0)) else (f2_128 x0)) = r := hr
  refine o_iload_n X hx (hb hby d2_114) rfl (pc' := 115) rfl ?_
  refine o_sipush X hx (hb hby d2_115) (12271 : Int32) rfl (pc' := 118) rfl ?_
  by_cases hc18 : (12271 : Int32) < x0
  · rw [if_pos hc18] at hr
    refine o_icmpNo X hx (hb hby d2_118) (c_tgt hc18).2 (pc' := 121) rfl ?_
    refine o_iload_n X hx (hb hby d2_121) rfl (pc' := 122) rfl ?_
    refine o_sipush X hx (hb hby d2_122) (12289 : Int32) rfl (pc' := 125) rfl ?_
    by_cases hc19 : x0 < (12289 : Int32)
    · rw [if_pos hc19] at hr
      refine o_icmpYes X hx (hb hby d2_125) (c_tlt hc19).1 (pc' := 170) (by decide) (by decide) ?_
      refine o_iconst X hx (hb hby d2_170) (1 : Int32) rfl (pc' := 171) rfl ?_
      refine o_goto X hx (hb hby d2_171) (pc' := 175) (by decide) (by decide) ?_
      subst hr
      exact o_retN X hx hlk (t := .boolean) (by simp) hret (hb hby d2_175) rfl ⟨rfl, N, eT⟩ (by decide) (by decide)
    · rw [if_neg hc19] at hr
      refine o_icmpNo X hx (hb hby d2_125) (c_flt hc19).1 (pc' := 128) rfl ?_
      exact b2_128 hx hZ hw hby hml hown hnm hret hlk x0 r X eT N Z0 hr
  · rw [if_neg hc18] at hr
    refine o_icmpYes X hx (hb hby d2_118) (c_fgt hc18).2 (pc' := 128) (by decide) (by decide) ?_
    exact b2_128 hx hZ hw hby hml hown hnm hret hlk x0 r X eT N Z0 hr
def f2_100 (x0 : Int32) : Int32 := (if (8591 : Int32) < x0 then (if x0 < (11264 : Int32) then (1 : Int32) else (f2_114 x0)) else (f2_114 x0))
set_option maxRecDepth 65536 in
set_option maxHeartbeats 40000000 in
theorem b2_100 {p : Program} {l : Launch} {e : Env} {s : State} {m : MethodId} {args : Array Value} {below : List Frame} {meth : Method} {c : Code} {Z : State} {a0 : Array Value} {h0 : Heap} {n0 : Nat} (hx : p.tables.exec = Jvm.exec) (hZ : Z.Warmed39 s.vm) (hw : ∀ d ∈ tables_1, d.before a0 Z = true) (hby : c.code = method_2_code) (hml : c.maxLocals = 1) (hown : s.vm.findClass "com/example/libtreegram/libtreegram/model/XmlNamesIsNcNameStartCharPinLaw" = some m.cls) (hnm : meth.name = "excluded") (hret : meth.sig.returnType = some .boolean) (hlk : meth.locks = false)  {T : State} {locs : List Loc} (x0 : Int32) (r : Int32) (X : Stand p l e ({ frames := 0, cells := 0, slots := 0, locals := 0 } : Room) s m args below meth c T locs 0 0) (eT : T.heap = h0) (N : Fr n0 locs) (Z0 : n0 ≤ h0.size) (hr : f2_100 x0 = r) :
    OG p e below s (fun v h L => v = (some (.int r)) ∧ Fr n0 L ∧ h = h0) 0 0 T (mkF m 100 #[.val (.int x0)] []) := by
  have hr : (if (8591 : Int32) < x0 then (if x0 < (11264 : Int32) then (1 : Int32) else (f2_114 x0)) else (f2_114 x0)) = r := hr
  refine o_iload_n X hx (hb hby d2_100) rfl (pc' := 101) rfl ?_
  refine o_sipush X hx (hb hby d2_101) (8591 : Int32) rfl (pc' := 104) rfl ?_
  by_cases hc16 : (8591 : Int32) < x0
  · rw [if_pos hc16] at hr
    refine o_icmpNo X hx (hb hby d2_104) (c_tgt hc16).2 (pc' := 107) rfl ?_
    refine o_iload_n X hx (hb hby d2_107) rfl (pc' := 108) rfl ?_
    refine o_sipush X hx (hb hby d2_108) (11264 : Int32) rfl (pc' := 111) rfl ?_
    by_cases hc17 : x0 < (11264 : Int32)
    · rw [if_pos hc17] at hr
      refine o_icmpYes X hx (hb hby d2_111) (c_tlt hc17).1 (pc' := 170) (by decide) (by decide) ?_
      refine o_iconst X hx (hb hby d2_170) (1 : Int32) rfl (pc' := 171) rfl ?_
      refine o_goto X hx (hb hby d2_171) (pc' := 175) (by decide) (by decide) ?_
      subst hr
      exact o_retN X hx hlk (t := .boolean) (by simp) hret (hb hby d2_175) rfl ⟨rfl, N, eT⟩ (by decide) (by decide)
    · rw [if_neg hc17] at hr
      refine o_icmpNo X hx (hb hby d2_111) (c_flt hc17).1 (pc' := 114) rfl ?_
      exact b2_114 hx hZ hw hby hml hown hnm hret hlk x0 r X eT N Z0 hr
  · rw [if_neg hc16] at hr
    refine o_icmpYes X hx (hb hby d2_104) (c_fgt hc16).2 (pc' := 114) (by decide) (by decide) ?_
    exact b2_114 hx hZ hw hby hml hown hnm hret hlk x0 r X eT N Z0 hr
def f2_86 (x0 : Int32) : Int32 := (if (8205 : Int32) < x0 then (if x0 < (8304 : Int32) then (1 : Int32) else (f2_100 x0)) else (f2_100 x0))
set_option maxRecDepth 65536 in
set_option maxHeartbeats 40000000 in
theorem b2_86 {p : Program} {l : Launch} {e : Env} {s : State} {m : MethodId} {args : Array Value} {below : List Frame} {meth : Method} {c : Code} {Z : State} {a0 : Array Value} {h0 : Heap} {n0 : Nat} (hx : p.tables.exec = Jvm.exec) (hZ : Z.Warmed39 s.vm) (hw : ∀ d ∈ tables_1, d.before a0 Z = true) (hby : c.code = method_2_code) (hml : c.maxLocals = 1) (hown : s.vm.findClass "com/example/libtreegram/libtreegram/model/XmlNamesIsNcNameStartCharPinLaw" = some m.cls) (hnm : meth.name = "excluded") (hret : meth.sig.returnType = some .boolean) (hlk : meth.locks = false)  {T : State} {locs : List Loc} (x0 : Int32) (r : Int32) (X : Stand p l e ({ frames := 0, cells := 0, slots := 0, locals := 0 } : Room) s m args below meth c T locs 0 0) (eT : T.heap = h0) (N : Fr n0 locs) (Z0 : n0 ≤ h0.size) (hr : f2_86 x0 = r) :
    OG p e below s (fun v h L => v = (some (.int r)) ∧ Fr n0 L ∧ h = h0) 0 0 T (mkF m 86 #[.val (.int x0)] []) := by
  have hr : (if (8205 : Int32) < x0 then (if x0 < (8304 : Int32) then (1 : Int32) else (f2_100 x0)) else (f2_100 x0)) = r := hr
  refine o_iload_n X hx (hb hby d2_86) rfl (pc' := 87) rfl ?_
  refine o_sipush X hx (hb hby d2_87) (8205 : Int32) rfl (pc' := 90) rfl ?_
  by_cases hc14 : (8205 : Int32) < x0
  · rw [if_pos hc14] at hr
    refine o_icmpNo X hx (hb hby d2_90) (c_tgt hc14).2 (pc' := 93) rfl ?_
    refine o_iload_n X hx (hb hby d2_93) rfl (pc' := 94) rfl ?_
    refine o_sipush X hx (hb hby d2_94) (8304 : Int32) rfl (pc' := 97) rfl ?_
    by_cases hc15 : x0 < (8304 : Int32)
    · rw [if_pos hc15] at hr
      refine o_icmpYes X hx (hb hby d2_97) (c_tlt hc15).1 (pc' := 170) (by decide) (by decide) ?_
      refine o_iconst X hx (hb hby d2_170) (1 : Int32) rfl (pc' := 171) rfl ?_
      refine o_goto X hx (hb hby d2_171) (pc' := 175) (by decide) (by decide) ?_
      subst hr
      exact o_retN X hx hlk (t := .boolean) (by simp) hret (hb hby d2_175) rfl ⟨rfl, N, eT⟩ (by decide) (by decide)
    · rw [if_neg hc15] at hr
      refine o_icmpNo X hx (hb hby d2_97) (c_flt hc15).1 (pc' := 100) rfl ?_
      exact b2_100 hx hZ hw hby hml hown hnm hret hlk x0 r X eT N Z0 hr
  · rw [if_neg hc14] at hr
    refine o_icmpYes X hx (hb hby d2_90) (c_fgt hc14).2 (pc' := 100) (by decide) (by decide) ?_
    exact b2_100 hx hZ hw hby hml hown hnm hret hlk x0 r X eT N Z0 hr
def f2_65 (x0 : Int32) : Int32 := (if x0 = (894 : Int32) then (1 : Int32) else (if (8191 : Int32) < x0 then (if x0 < (8204 : Int32) then (1 : Int32) else (f2_86 x0)) else (f2_86 x0)))
set_option maxRecDepth 65536 in
set_option maxHeartbeats 40000000 in
theorem b2_65 {p : Program} {l : Launch} {e : Env} {s : State} {m : MethodId} {args : Array Value} {below : List Frame} {meth : Method} {c : Code} {Z : State} {a0 : Array Value} {h0 : Heap} {n0 : Nat} (hx : p.tables.exec = Jvm.exec) (hZ : Z.Warmed39 s.vm) (hw : ∀ d ∈ tables_1, d.before a0 Z = true) (hby : c.code = method_2_code) (hml : c.maxLocals = 1) (hown : s.vm.findClass "com/example/libtreegram/libtreegram/model/XmlNamesIsNcNameStartCharPinLaw" = some m.cls) (hnm : meth.name = "excluded") (hret : meth.sig.returnType = some .boolean) (hlk : meth.locks = false)  {T : State} {locs : List Loc} (x0 : Int32) (r : Int32) (X : Stand p l e ({ frames := 0, cells := 0, slots := 0, locals := 0 } : Room) s m args below meth c T locs 0 0) (eT : T.heap = h0) (N : Fr n0 locs) (Z0 : n0 ≤ h0.size) (hr : f2_65 x0 = r) :
    OG p e below s (fun v h L => v = (some (.int r)) ∧ Fr n0 L ∧ h = h0) 0 0 T (mkF m 65 #[.val (.int x0)] []) := by
  have hr : (if x0 = (894 : Int32) then (1 : Int32) else (if (8191 : Int32) < x0 then (if x0 < (8204 : Int32) then (1 : Int32) else (f2_86 x0)) else (f2_86 x0))) = r := hr
  refine o_iload_n X hx (hb hby d2_65) rfl (pc' := 66) rfl ?_
  refine o_sipush X hx (hb hby d2_66) (894 : Int32) rfl (pc' := 69) rfl ?_
  by_cases hc11 : x0 = (894 : Int32)
  · rw [if_pos hc11] at hr
    refine o_icmpYes X hx (hb hby d2_69) (c_teq hc11).1 (pc' := 170) (by decide) (by decide) ?_
    refine o_iconst X hx (hb hby d2_170) (1 : Int32) rfl (pc' := 171) rfl ?_
    refine o_goto X hx (hb hby d2_171) (pc' := 175) (by decide) (by decide) ?_
    subst hr
    exact o_retN X hx hlk (t := .boolean) (by simp) hret (hb hby d2_175) rfl ⟨rfl, N, eT⟩ (by decide) (by decide)
  · rw [if_neg hc11] at hr
    refine o_icmpNo X hx (hb hby d2_69) (c_feq hc11).1 (pc' := 72) rfl ?_
    refine o_iload_n X hx (hb hby d2_72) rfl (pc' := 73) rfl ?_
    refine o_sipush X hx (hb hby d2_73) (8191 : Int32) rfl (pc' := 76) rfl ?_
    by_cases hc12 : (8191 : Int32) < x0
    · rw [if_pos hc12] at hr
      refine o_icmpNo X hx (hb hby d2_76) (c_tgt hc12).2 (pc' := 79) rfl ?_
      refine o_iload_n X hx (hb hby d2_79) rfl (pc' := 80) rfl ?_
      refine o_sipush X hx (hb hby d2_80) (8204 : Int32) rfl (pc' := 83) rfl ?_
      by_cases hc13 : x0 < (8204 : Int32)
      · rw [if_pos hc13] at hr
        refine o_icmpYes X hx (hb hby d2_83) (c_tlt hc13).1 (pc' := 170) (by decide) (by decide) ?_
        refine o_iconst X hx (hb hby d2_170) (1 : Int32) rfl (pc' := 171) rfl ?_
        refine o_goto X hx (hb hby d2_171) (pc' := 175) (by decide) (by decide) ?_
        subst hr
        exact o_retN X hx hlk (t := .boolean) (by simp) hret (hb hby d2_175) rfl ⟨rfl, N, eT⟩ (by decide) (by decide)
      · rw [if_neg hc13] at hr
        refine o_icmpNo X hx (hb hby d2_83) (c_flt hc13).1 (pc' := 86) rfl ?_
        exact b2_86 hx hZ hw hby hml hown hnm hret hlk x0 r X eT N Z0 hr
    · rw [if_neg hc12] at hr
      refine o_icmpYes X hx (hb hby d2_76) (c_fgt hc12).2 (pc' := 86) (by decide) (by decide) ?_
      exact b2_86 hx hZ hw hby hml hown hnm hret hlk x0 r X eT N Z0 hr
def f2_37 (x0 : Int32) : Int32 := (if x0 = (215 : Int32) then (1 : Int32) else (if x0 = (247 : Int32) then (1 : Int32) else (if (767 : Int32) < x0 then (if x0 < (880 : Int32) then (1 : Int32) else (f2_65 x0)) else (f2_65 x0))))
set_option maxRecDepth 65536 in
set_option maxHeartbeats 40000000 in
theorem b2_37 {p : Program} {l : Launch} {e : Env} {s : State} {m : MethodId} {args : Array Value} {below : List Frame} {meth : Method} {c : Code} {Z : State} {a0 : Array Value} {h0 : Heap} {n0 : Nat} (hx : p.tables.exec = Jvm.exec) (hZ : Z.Warmed39 s.vm) (hw : ∀ d ∈ tables_1, d.before a0 Z = true) (hby : c.code = method_2_code) (hml : c.maxLocals = 1) (hown : s.vm.findClass "com/example/libtreegram/libtreegram/model/XmlNamesIsNcNameStartCharPinLaw" = some m.cls) (hnm : meth.name = "excluded") (hret : meth.sig.returnType = some .boolean) (hlk : meth.locks = false)  {T : State} {locs : List Loc} (x0 : Int32) (r : Int32) (X : Stand p l e ({ frames := 0, cells := 0, slots := 0, locals := 0 } : Room) s m args below meth c T locs 0 0) (eT : T.heap = h0) (N : Fr n0 locs) (Z0 : n0 ≤ h0.size) (hr : f2_37 x0 = r) :
    OG p e below s (fun v h L => v = (some (.int r)) ∧ Fr n0 L ∧ h = h0) 0 0 T (mkF m 37 #[.val (.int x0)] []) := by
  have hr : (if x0 = (215 : Int32) then (1 : Int32) else (if x0 = (247 : Int32) then (1 : Int32) else (if (767 : Int32) < x0 then (if x0 < (880 : Int32) then (1 : Int32) else (f2_65 x0)) else (f2_65 x0)))) = r := hr
  refine o_iload_n X hx (hb hby d2_37) rfl (pc' := 38) rfl ?_
  refine o_sipush X hx (hb hby d2_38) (215 : Int32) rfl (pc' := 41) rfl ?_
  by_cases hc7 : x0 = (215 : Int32)
  · rw [if_pos hc7] at hr
    refine o_icmpYes X hx (hb hby d2_41) (c_teq hc7).1 (pc' := 170) (by decide) (by decide) ?_
    refine o_iconst X hx (hb hby d2_170) (1 : Int32) rfl (pc' := 171) rfl ?_
    refine o_goto X hx (hb hby d2_171) (pc' := 175) (by decide) (by decide) ?_
    subst hr
    exact o_retN X hx hlk (t := .boolean) (by simp) hret (hb hby d2_175) rfl ⟨rfl, N, eT⟩ (by decide) (by decide)
  · rw [if_neg hc7] at hr
    refine o_icmpNo X hx (hb hby d2_41) (c_feq hc7).1 (pc' := 44) rfl ?_
    refine o_iload_n X hx (hb hby d2_44) rfl (pc' := 45) rfl ?_
    refine o_sipush X hx (hb hby d2_45) (247 : Int32) rfl (pc' := 48) rfl ?_
    by_cases hc8 : x0 = (247 : Int32)
    · rw [if_pos hc8] at hr
      refine o_icmpYes X hx (hb hby d2_48) (c_teq hc8).1 (pc' := 170) (by decide) (by decide) ?_
      refine o_iconst X hx (hb hby d2_170) (1 : Int32) rfl (pc' := 171) rfl ?_
      refine o_goto X hx (hb hby d2_171) (pc' := 175) (by decide) (by decide) ?_
      subst hr
      exact o_retN X hx hlk (t := .boolean) (by simp) hret (hb hby d2_175) rfl ⟨rfl, N, eT⟩ (by decide) (by decide)
    · rw [if_neg hc8] at hr
      refine o_icmpNo X hx (hb hby d2_48) (c_feq hc8).1 (pc' := 51) rfl ?_
      refine o_iload_n X hx (hb hby d2_51) rfl (pc' := 52) rfl ?_
      refine o_sipush X hx (hb hby d2_52) (767 : Int32) rfl (pc' := 55) rfl ?_
      by_cases hc9 : (767 : Int32) < x0
      · rw [if_pos hc9] at hr
        refine o_icmpNo X hx (hb hby d2_55) (c_tgt hc9).2 (pc' := 58) rfl ?_
        refine o_iload_n X hx (hb hby d2_58) rfl (pc' := 59) rfl ?_
        refine o_sipush X hx (hb hby d2_59) (880 : Int32) rfl (pc' := 62) rfl ?_
        by_cases hc10 : x0 < (880 : Int32)
        · rw [if_pos hc10] at hr
          refine o_icmpYes X hx (hb hby d2_62) (c_tlt hc10).1 (pc' := 170) (by decide) (by decide) ?_
          refine o_iconst X hx (hb hby d2_170) (1 : Int32) rfl (pc' := 171) rfl ?_
          refine o_goto X hx (hb hby d2_171) (pc' := 175) (by decide) (by decide) ?_
          subst hr
          exact o_retN X hx hlk (t := .boolean) (by simp) hret (hb hby d2_175) rfl ⟨rfl, N, eT⟩ (by decide) (by decide)
        · rw [if_neg hc10] at hr
          refine o_icmpNo X hx (hb hby d2_62) (c_flt hc10).1 (pc' := 65) rfl ?_
          exact b2_65 hx hZ hw hby hml hown hnm hret hlk x0 r X eT N Z0 hr
      · rw [if_neg hc9] at hr
        refine o_icmpYes X hx (hb hby d2_55) (c_fgt hc9).2 (pc' := 65) (by decide) (by decide) ?_
        exact b2_65 hx hZ hw hby hml hown hnm hret hlk x0 r X eT N Z0 hr
def f2_24 (x0 : Int32) : Int32 := (if (122 : Int32) < x0 then (if x0 < (192 : Int32) then (1 : Int32) else (f2_37 x0)) else (f2_37 x0))
set_option maxRecDepth 65536 in
set_option maxHeartbeats 40000000 in
theorem b2_24 {p : Program} {l : Launch} {e : Env} {s : State} {m : MethodId} {args : Array Value} {below : List Frame} {meth : Method} {c : Code} {Z : State} {a0 : Array Value} {h0 : Heap} {n0 : Nat} (hx : p.tables.exec = Jvm.exec) (hZ : Z.Warmed39 s.vm) (hw : ∀ d ∈ tables_1, d.before a0 Z = true) (hby : c.code = method_2_code) (hml : c.maxLocals = 1) (hown : s.vm.findClass "com/example/libtreegram/libtreegram/model/XmlNamesIsNcNameStartCharPinLaw" = some m.cls) (hnm : meth.name = "excluded") (hret : meth.sig.returnType = some .boolean) (hlk : meth.locks = false)  {T : State} {locs : List Loc} (x0 : Int32) (r : Int32) (X : Stand p l e ({ frames := 0, cells := 0, slots := 0, locals := 0 } : Room) s m args below meth c T locs 0 0) (eT : T.heap = h0) (N : Fr n0 locs) (Z0 : n0 ≤ h0.size) (hr : f2_24 x0 = r) :
    OG p e below s (fun v h L => v = (some (.int r)) ∧ Fr n0 L ∧ h = h0) 0 0 T (mkF m 24 #[.val (.int x0)] []) := by
  have hr : (if (122 : Int32) < x0 then (if x0 < (192 : Int32) then (1 : Int32) else (f2_37 x0)) else (f2_37 x0)) = r := hr
  refine o_iload_n X hx (hb hby d2_24) rfl (pc' := 25) rfl ?_
  refine o_bipush X hx (hb hby d2_25) (122 : Int32) rfl (pc' := 27) rfl ?_
  by_cases hc5 : (122 : Int32) < x0
  · rw [if_pos hc5] at hr
    refine o_icmpNo X hx (hb hby d2_27) (c_tgt hc5).2 (pc' := 30) rfl ?_
    refine o_iload_n X hx (hb hby d2_30) rfl (pc' := 31) rfl ?_
    refine o_sipush X hx (hb hby d2_31) (192 : Int32) rfl (pc' := 34) rfl ?_
    by_cases hc6 : x0 < (192 : Int32)
    · rw [if_pos hc6] at hr
      refine o_icmpYes X hx (hb hby d2_34) (c_tlt hc6).1 (pc' := 170) (by decide) (by decide) ?_
      refine o_iconst X hx (hb hby d2_170) (1 : Int32) rfl (pc' := 171) rfl ?_
      refine o_goto X hx (hb hby d2_171) (pc' := 175) (by decide) (by decide) ?_
      subst hr
      exact o_retN X hx hlk (t := .boolean) (by simp) hret (hb hby d2_175) rfl ⟨rfl, N, eT⟩ (by decide) (by decide)
    · rw [if_neg hc6] at hr
      refine o_icmpNo X hx (hb hby d2_34) (c_flt hc6).1 (pc' := 37) rfl ?_
      exact b2_37 hx hZ hw hby hml hown hnm hret hlk x0 r X eT N Z0 hr
  · rw [if_neg hc5] at hr
    refine o_icmpYes X hx (hb hby d2_27) (c_fgt hc5).2 (pc' := 37) (by decide) (by decide) ?_
    exact b2_37 hx hZ hw hby hml hown hnm hret hlk x0 r X eT N Z0 hr
def f2_0 (x0 : Int32) : Int32 := (if x0 < (65 : Int32) then (1 : Int32) else (if (90 : Int32) < x0 then (if x0 < (97 : Int32) then (if x0 = (95 : Int32) then (f2_24 x0) else (1 : Int32)) else (f2_24 x0)) else (f2_24 x0)))
set_option maxRecDepth 65536 in
set_option maxHeartbeats 40000000 in
theorem b2_0 {p : Program} {l : Launch} {e : Env} {s : State} {m : MethodId} {args : Array Value} {below : List Frame} {meth : Method} {c : Code} {Z : State} {a0 : Array Value} {h0 : Heap} {n0 : Nat} (hx : p.tables.exec = Jvm.exec) (hZ : Z.Warmed39 s.vm) (hw : ∀ d ∈ tables_1, d.before a0 Z = true) (hby : c.code = method_2_code) (hml : c.maxLocals = 1) (hown : s.vm.findClass "com/example/libtreegram/libtreegram/model/XmlNamesIsNcNameStartCharPinLaw" = some m.cls) (hnm : meth.name = "excluded") (hret : meth.sig.returnType = some .boolean) (hlk : meth.locks = false)  {T : State} {locs : List Loc} (x0 : Int32) (r : Int32) (X : Stand p l e ({ frames := 0, cells := 0, slots := 0, locals := 0 } : Room) s m args below meth c T locs 0 0) (eT : T.heap = h0) (N : Fr n0 locs) (Z0 : n0 ≤ h0.size) (hr : f2_0 x0 = r) :
    OG p e below s (fun v h L => v = (some (.int r)) ∧ Fr n0 L ∧ h = h0) 0 0 T (mkF m 0 #[.val (.int x0)] []) := by
  have hr : (if x0 < (65 : Int32) then (1 : Int32) else (if (90 : Int32) < x0 then (if x0 < (97 : Int32) then (if x0 = (95 : Int32) then (f2_24 x0) else (1 : Int32)) else (f2_24 x0)) else (f2_24 x0))) = r := hr
  refine o_iload_n X hx (hb hby d2_0) rfl (pc' := 1) rfl ?_
  refine o_bipush X hx (hb hby d2_1) (65 : Int32) rfl (pc' := 3) rfl ?_
  by_cases hc1 : x0 < (65 : Int32)
  · rw [if_pos hc1] at hr
    refine o_icmpYes X hx (hb hby d2_3) (c_tlt hc1).1 (pc' := 170) (by decide) (by decide) ?_
    refine o_iconst X hx (hb hby d2_170) (1 : Int32) rfl (pc' := 171) rfl ?_
    refine o_goto X hx (hb hby d2_171) (pc' := 175) (by decide) (by decide) ?_
    subst hr
    exact o_retN X hx hlk (t := .boolean) (by simp) hret (hb hby d2_175) rfl ⟨rfl, N, eT⟩ (by decide) (by decide)
  · rw [if_neg hc1] at hr
    refine o_icmpNo X hx (hb hby d2_3) (c_flt hc1).1 (pc' := 6) rfl ?_
    refine o_iload_n X hx (hb hby d2_6) rfl (pc' := 7) rfl ?_
    refine o_bipush X hx (hb hby d2_7) (90 : Int32) rfl (pc' := 9) rfl ?_
    by_cases hc2 : (90 : Int32) < x0
    · rw [if_pos hc2] at hr
      refine o_icmpNo X hx (hb hby d2_9) (c_tgt hc2).2 (pc' := 12) rfl ?_
      refine o_iload_n X hx (hb hby d2_12) rfl (pc' := 13) rfl ?_
      refine o_bipush X hx (hb hby d2_13) (97 : Int32) rfl (pc' := 15) rfl ?_
      by_cases hc3 : x0 < (97 : Int32)
      · rw [if_pos hc3] at hr
        refine o_icmpNo X hx (hb hby d2_15) (c_tlt hc3).2 (pc' := 18) rfl ?_
        refine o_iload_n X hx (hb hby d2_18) rfl (pc' := 19) rfl ?_
        refine o_bipush X hx (hb hby d2_19) (95 : Int32) rfl (pc' := 21) rfl ?_
        by_cases hc4 : x0 = (95 : Int32)
        · rw [if_pos hc4] at hr
          refine o_icmpNo X hx (hb hby d2_21) (c_teq hc4).2 (pc' := 24) rfl ?_
          exact b2_24 hx hZ hw hby hml hown hnm hret hlk x0 r X eT N Z0 hr
        · rw [if_neg hc4] at hr
          refine o_icmpYes X hx (hb hby d2_21) (c_feq hc4).2 (pc' := 170) (by decide) (by decide) ?_
          refine o_iconst X hx (hb hby d2_170) (1 : Int32) rfl (pc' := 171) rfl ?_
          refine o_goto X hx (hb hby d2_171) (pc' := 175) (by decide) (by decide) ?_
          subst hr
          exact o_retN X hx hlk (t := .boolean) (by simp) hret (hb hby d2_175) rfl ⟨rfl, N, eT⟩ (by decide) (by decide)
      · rw [if_neg hc3] at hr
        refine o_icmpYes X hx (hb hby d2_15) (c_flt hc3).2 (pc' := 24) (by decide) (by decide) ?_
        exact b2_24 hx hZ hw hby hml hown hnm hret hlk x0 r X eT N Z0 hr
    · rw [if_neg hc2] at hr
      refine o_icmpYes X hx (hb hby d2_9) (c_fgt hc2).2 (pc' := 24) (by decide) (by decide) ?_
      exact b2_24 hx hZ hw hby hml hown hnm hret hlk x0 r X eT N Z0 hr
theorem pn_2 : plainName "com/example/libtreegram/libtreegram/model/XmlNamesIsNcNameStartCharPinLaw" = true := by first | (simp [plainName, overriddenIn]; done) | decide +kernel
theorem ef_2 (m : MethodId) (x0 : Int32) : entryFrame m #[(.int x0)] 1 = (mkF m 0 #[.val (.int x0)] []) := by first | (simp [entryFrame, mkF, argsToLocals, Value.category]; done) | rfl
def Qd2 (Z : State) (h0 : Heap) (n0 : Nat) (x0 : Int32) (r : Int32) : Option Value → Heap → List Loc → Prop := (fun v h L => v = (some (.int r)) ∧ Fr n0 L ∧ h = h0)
set_option maxRecDepth 65536 in
set_option maxHeartbeats 40000000 in
theorem rm2 (l : Launch) (Z : State) (a0 : Array Value) (hw : ∀ d ∈ tables_1, d.before a0 Z = true) (ws : List Jvm.Cond) (x0 : Int32) (h0 : Heap) (n0 : Nat) (Z0 : n0 ≤ h0.size) (r : Int32) (hr : f2_0 x0 = r) :
    MetFree l (⟨"com/example/libtreegram/libtreegram/model/XmlNamesIsNcNameStartCharPinLaw", "excluded", "(I)Z"⟩ : MethodName) (head1 (Jvm.Cond.code (⟨"com/example/libtreegram/libtreegram/model/XmlNamesIsNcNameStartCharPinLaw", "excluded", "(I)Z"⟩ : MethodName) method_2_code 1 (some .boolean) :: ws) ({ frames := 0, cells := 0, slots := 0, locals := 0 } : Room)) (fun a U => a = #[(.int x0)] ∧ Z.Warmed39 U.vm ∧ U.heap = h0) (fun _ _ _ _ _ => True) (fun _ U o U' => ∃ v L, o = .returned v ∧ (Qd2 Z h0 n0 x0 r) v U'.heap L ∧ FrameEnd U o U' L ({ frames := 0, cells := 0, slots := 0, locals := 0 } : Room).cells ({ frames := 0, cells := 0, slots := 0, locals := 0 } : Room).slots) := by
  refine MetFree.of_bodySF (plainFor_of_name pn_2) hisR ?_
  intro p e s m args below meth c s₁ Bd hml0 hP hK
  obtain ⟨rfl, hZ, hh⟩ := hP
  have e0 : s₁.heap = h0 := by rw [← hh, Bd.state]; rfl
  exact OG.cast (ef_2 m x0) (b2_0 Bd.exec hZ hw Bd.bytes hml0 (findClass_of_methodNamed Bd.named) (name_of_methodNamed Bd.named Bd.method).1 Bd.returns Bd.notSynchronized x0 r (Stand.of_body Bd) e0 (Fr.nil n0) Z0 hr)
theorem pd_0 : parseMethodDescriptor "(I)Z" = some ⟨[.int], some .boolean⟩ := by decide +kernel
def f0_260 (t0 : Int32) (t1 : Int32) : Option (Int32) := (if t1 = t0 then (some (1 : Int32)) else (some (0 : Int32)))
set_option maxRecDepth 65536 in
set_option maxHeartbeats 40000000 in
theorem b0_260 {p : Program} {l : Launch} {e : Env} {s : State} {m : MethodId} {args : Array Value} {below : List Frame} {meth : Method} {c : Code} {Z : State} {a0 : Array Value} {n0 : Nat} (hx : p.tables.exec = Jvm.exec) (hZ : Z.Warmed39 s.vm) (hw : ∀ d ∈ tables_1, d.before a0 Z = true) (hby : c.code = code) (hml : c.maxLocals = 5) (hown : s.vm.findClass "com/example/libtreegram/libtreegram/model/XmlNamesIsNcNameStartCharPinLaw" = some m.cls) (hnm : meth.name = "law") (hret : meth.sig.returnType = some .boolean) (hlk : meth.locks = false)  {T : State} {locs : List Loc} {h : Heap} (d0 : Int32) (d1 : Int32) (d2 : Int32) (d3 : Addr) (d4 : Int32) (t0 : Int32) (t1 : Int32) (r : Int32) (X : Stand p l e room_1 s m args below meth c T locs 1 33) (eT : T.heap = h) (N : Fr n0 locs) (hsz : n0 ≤ h.size) (hr : f0_260 t0 t1 = some r) :
    OG p e below s (fun v h L => v = (some (.int r)) ∧ Fr n0 L) 16 192 T (mkF m 260 #[.val (.int d0), .val (.int d1), .val (.int d2), .val (.ref d3), .val (.int d4)] [(.int t0), (.int t1)]) := by
  have hr : (if t1 = t0 then (some (1 : Int32)) else (some (0 : Int32))) = some r := hr
  by_cases hc39 : t1 = t0
  · rw [if_pos hc39] at hr
    refine o_icmpNo X hx (hb hby at_260) (c_teq hc39).2 (pc' := 263) rfl ?_
    refine o_iconst X hx (hb hby at_263) (1 : Int32) rfl (pc' := 264) rfl ?_
    refine o_goto X hx (hb hby at_264) (pc' := 268) (by decide) (by decide) ?_
    obtain rfl : (1 : Int32) = r := Option.some.inj hr
    exact o_retN X hx hlk (t := .boolean) (by simp) hret (hb hby at_268) rfl ⟨rfl, N⟩ (by decide) (by decide)
  · rw [if_neg hc39] at hr
    refine o_icmpYes X hx (hb hby at_260) (c_feq hc39).2 (pc' := 267) (by decide) (by decide) ?_
    refine o_iconst X hx (hb hby at_267) (0 : Int32) rfl (pc' := 268) rfl ?_
    obtain rfl : (0 : Int32) = r := Option.some.inj hr
    exact o_retN X hx hlk (t := .boolean) (by simp) hret (hb hby at_268) rfl ⟨rfl, N⟩ (by decide) (by decide)
def f0_242 (x4 : Int32) : Option (Int32) := (if (f2_0 x4) = (0 : Int32) then (f0_260 (1 : Int32) (f1_0 x4)) else (f0_260 (0 : Int32) (f1_0 x4)))
set_option maxRecDepth 65536 in
set_option maxHeartbeats 40000000 in
theorem b0_242 {p : Program} {l : Launch} {e : Env} {s : State} {m : MethodId} {args : Array Value} {below : List Frame} {meth : Method} {c : Code} {Z : State} {a0 : Array Value} {n0 : Nat} (hx : p.tables.exec = Jvm.exec) (hZ : Z.Warmed39 s.vm) (hw : ∀ d ∈ tables_1, d.before a0 Z = true) (hby : c.code = code) (hml : c.maxLocals = 5) (hown : s.vm.findClass "com/example/libtreegram/libtreegram/model/XmlNamesIsNcNameStartCharPinLaw" = some m.cls) (hnm : meth.name = "law") (hret : meth.sig.returnType = some .boolean) (hlk : meth.locks = false)  {T : State} {locs : List Loc} {h : Heap} (d0 : Int32) (d1 : Int32) (d2 : Int32) (d3 : Addr) (x4 : Int32) (r : Int32) (X : Stand p l e room_1 s m args below meth c T locs 1 33) (eT : T.heap = h) (N : Fr n0 locs) (hsz : n0 ≤ h.size) (hr : f0_242 x4 = some r) :
    OG p e below s (fun v h L => v = (some (.int r)) ∧ Fr n0 L) 16 192 T (mkF m 242 #[.val (.int d0), .val (.int d1), .val (.int d2), .val (.ref d3), .val (.int x4)] []) := by
  have hr : (if (f2_0 x4) = (0 : Int32) then (f0_260 (1 : Int32) (f1_0 x4)) else (f0_260 (0 : Int32) (f1_0 x4))) = some r := hr
  refine o_iload X hx (hb hby at_242) rfl (pc' := 244) rfl ?_
  refine o_callS X hx hZ (argsL := [(.int x4)]) (rest := []) 0 hown eT (hw _ (List.mem_of_getElem? (i := 8) rfl)) (hw _ (List.mem_of_getElem? (i := 9) rfl)) (hw _ (List.mem_of_getElem? (i := 10) rfl)) (hw _ (List.mem_of_getElem? (i := 11) rfl)) (by decide) (rm1 l Z a0 hw [] x4 h n0 hsz (f1_0 x4) rfl) (by decide) (by decide) (by rw [hml]; rfl) (lenOf pd_0 rfl) rfl (Nat.le_refl _) (hb hby at_244) (pc' := 247) rfl (by decide) (by decide) ?_
  rintro _ T36 L36 X36 ⟨rfl, N36, e36⟩
  replace X36 : Stand p l e room_1 s m args below meth c T36 (locs ++ L36) 1 33 := X36
  have M36 := Fr.app N N36
  dsimp only [Option.toList, List.cons_append, List.nil_append]
  refine o_iload X36 hx (hb hby at_247) rfl (pc' := 249) rfl ?_
  refine o_callS X36 hx hZ (argsL := [(.int x4)]) (rest := [(.int (f1_0 x4))]) 1 hown e36 (hw _ (List.mem_of_getElem? (i := 12) rfl)) (hw _ (List.mem_of_getElem? (i := 13) rfl)) (hw _ (List.mem_of_getElem? (i := 14) rfl)) (hw _ (List.mem_of_getElem? (i := 15) rfl)) (by decide) (rm2 l Z a0 hw [] x4 h n0 hsz (f2_0 x4) rfl) (by decide) (by decide) (by rw [hml]; rfl) (lenOf pd_0 rfl) rfl (Nat.le_refl _) (hb hby at_249) (pc' := 252) rfl (by decide) (by decide) ?_
  rintro _ T37 L37 X37 ⟨rfl, N37, e37⟩
  replace X37 : Stand p l e room_1 s m args below meth c T37 ((locs ++ L36) ++ L37) 1 33 := X37
  have M37 := Fr.app M36 N37
  dsimp only [Option.toList, List.cons_append, List.nil_append]
  by_cases hc38 : (f2_0 x4) = (0 : Int32)
  · rw [if_pos hc38] at hr
    refine o_ifNo X37 hx (hb hby at_252) (z_teq hc38).2 (pc' := 255) rfl ?_
    refine o_iconst X37 hx (hb hby at_255) (1 : Int32) rfl (pc' := 256) rfl ?_
    refine o_goto X37 hx (hb hby at_256) (pc' := 260) (by decide) (by decide) ?_
    exact b0_260 hx hZ hw hby hml hown hnm hret hlk d0 d1 d2 d3 x4 (1 : Int32) (f1_0 x4) r X37 e37 M37 hsz hr
  · rw [if_neg hc38] at hr
    refine o_ifYes X37 hx (hb hby at_252) (z_feq hc38).2 (pc' := 259) (by decide) (by decide) ?_
    refine o_iconst X37 hx (hb hby at_259) (0 : Int32) rfl (pc' := 260) rfl ?_
    exact b0_260 hx hZ hw hby hml hown hnm hret hlk d0 d1 d2 d3 x4 (0 : Int32) (f1_0 x4) r X37 e37 M37 hsz hr
def f0_0 (x0 : Int32) (x1 : Int32) (x2 : Int32) : Option (Int32) := (if (x1 &&& (1 : Int32)) = (0 : Int32) then (f0_242 x0) else (if (¬ ((((x1.toUInt32 >>> ((1 : Int32) &&& 31).toUInt32).toInt32) % (33 : Int32)) < 0) ∧ Int32.toNatClampNeg (((x1.toUInt32 >>> ((1 : Int32) &&& 31).toUInt32).toInt32) % (33 : Int32)) < 33) then (f0_242 (((li [(0 : Int32), (65 : Int32), (90 : Int32), (95 : Int32), (97 : Int32), (122 : Int32), (192 : Int32), (214 : Int32), (215 : Int32), (216 : Int32), (246 : Int32), (247 : Int32), (248 : Int32), (767 : Int32), (880 : Int32), (893 : Int32), (894 : Int32), (895 : Int32), (8191 : Int32), (8204 : Int32), (8205 : Int32), (8304 : Int32), (8591 : Int32), (11264 : Int32), (12271 : Int32), (12289 : Int32), (55295 : Int32), (63744 : Int32), (64975 : Int32), (65008 : Int32), (65533 : Int32), (65536 : Int32), (983039 : Int32)]) (Int32.toNatClampNeg (((x1.toUInt32 >>> ((1 : Int32) &&& 31).toUInt32).toInt32) % (33 : Int32)))) + (x2 % (3 : Int32)))) else none))
set_option maxRecDepth 65536 in
set_option maxHeartbeats 40000000 in
theorem b0_0 {p : Program} {l : Launch} {e : Env} {s : State} {m : MethodId} {args : Array Value} {below : List Frame} {meth : Method} {c : Code} {Z : State} {a0 : Array Value} {n0 : Nat} (hx : p.tables.exec = Jvm.exec) (hZ : Z.Warmed39 s.vm) (hw : ∀ d ∈ tables_1, d.before a0 Z = true) (hby : c.code = code) (hml : c.maxLocals = 5) (hown : s.vm.findClass "com/example/libtreegram/libtreegram/model/XmlNamesIsNcNameStartCharPinLaw" = some m.cls) (hnm : meth.name = "law") (hret : meth.sig.returnType = some .boolean) (hlk : meth.locks = false)  {T : State} {locs : List Loc} {h : Heap} (x0 : Int32) (x1 : Int32) (x2 : Int32) (r : Int32) (X : Stand p l e room_1 s m args below meth c T locs 0 0) (eT : T.heap = h) (N : Fr n0 locs) (hsz : n0 ≤ h.size) (hr : f0_0 x0 x1 x2 = some r) :
    OG p e below s (fun v h L => v = (some (.int r)) ∧ Fr n0 L) 16 192 T (mkF m 0 #[.val (.int x0), .val (.int x1), .val (.int x2), .unset, .unset] []) := by
  have hr : (if (x1 &&& (1 : Int32)) = (0 : Int32) then (f0_242 x0) else (if (¬ ((((x1.toUInt32 >>> ((1 : Int32) &&& 31).toUInt32).toInt32) % (33 : Int32)) < 0) ∧ Int32.toNatClampNeg (((x1.toUInt32 >>> ((1 : Int32) &&& 31).toUInt32).toInt32) % (33 : Int32)) < 33) then (f0_242 (((li [(0 : Int32), (65 : Int32), (90 : Int32), (95 : Int32), (97 : Int32), (122 : Int32), (192 : Int32), (214 : Int32), (215 : Int32), (216 : Int32), (246 : Int32), (247 : Int32), (248 : Int32), (767 : Int32), (880 : Int32), (893 : Int32), (894 : Int32), (895 : Int32), (8191 : Int32), (8204 : Int32), (8205 : Int32), (8304 : Int32), (8591 : Int32), (11264 : Int32), (12271 : Int32), (12289 : Int32), (55295 : Int32), (63744 : Int32), (64975 : Int32), (65008 : Int32), (65533 : Int32), (65536 : Int32), (983039 : Int32)]) (Int32.toNatClampNeg (((x1.toUInt32 >>> ((1 : Int32) &&& 31).toUInt32).toInt32) % (33 : Int32)))) + (x2 % (3 : Int32)))) else none)) = some r := hr
  refine o_bipush X hx (hb hby at_0) (33 : Int32) rfl (pc' := 2) rfl ?_
  refine o_newarr X hx hZ eT (hw _ (List.mem_of_getElem? (i := 0) rfl)) (hb hby at_2) (by decide) 33 (by decide) (by decide) (by decide) (by decide) (pc' := 4) rfl ?_
  intro T1 h1 a1 X1 e1 q1 E1 A1
  have g1 : n0 ≤ a1 := Nat.le_trans hsz (Nat.le_of_eq q1.symm)
  have z1 : n0 ≤ h1.size := Nat.le_trans hsz E1.1
  replace A1 : OAr Z h1 a1 .int 33 (ci (li [(0 : Int32), (0 : Int32), (0 : Int32), (0 : Int32), (0 : Int32), (0 : Int32), (0 : Int32), (0 : Int32), (0 : Int32), (0 : Int32), (0 : Int32), (0 : Int32), (0 : Int32), (0 : Int32), (0 : Int32), (0 : Int32), (0 : Int32), (0 : Int32), (0 : Int32), (0 : Int32), (0 : Int32), (0 : Int32), (0 : Int32), (0 : Int32), (0 : Int32), (0 : Int32), (0 : Int32), (0 : Int32), (0 : Int32), (0 : Int32), (0 : Int32), (0 : Int32), (0 : Int32)])) := OAr.zeros (k := 33) A1
  refine o_dup X1 hx (hb hby at_4) rfl (pc' := 5) rfl ?_
  refine o_iconst X1 hx (hb hby at_5) (0 : Int32) rfl (pc' := 6) rfl ?_
  refine o_iconst X1 hx (hb hby at_6) (0 : Int32) rfl (pc' := 7) rfl ?_
  refine o_iastore X1 hx hZ e1 A1 (hb hby at_7) (by decide) (by decide) (pc' := 8) rfl ?_
  intro T2 h2 X2 e2 W2
  have A2 : OAr Z h2 a1 .int 33 (ci (li [(0 : Int32), (0 : Int32), (0 : Int32), (0 : Int32), (0 : Int32), (0 : Int32), (0 : Int32), (0 : Int32), (0 : Int32), (0 : Int32), (0 : Int32), (0 : Int32), (0 : Int32), (0 : Int32), (0 : Int32), (0 : Int32), (0 : Int32), (0 : Int32), (0 : Int32), (0 : Int32), (0 : Int32), (0 : Int32), (0 : Int32), (0 : Int32), (0 : Int32), (0 : Int32), (0 : Int32), (0 : Int32), (0 : Int32), (0 : Int32), (0 : Int32), (0 : Int32), (0 : Int32)])) := OAr.setI (j := 0) (x := (0 : Int32)) W2 A1 (by decide)
  have N2 := Fr.snoc X2 N g1
  have z2 : n0 ≤ h2.size := Nat.le_trans z1 (Keep.of_wr W2).1
  refine o_dup X2 hx (hb hby at_8) rfl (pc' := 9) rfl ?_
  refine o_iconst X2 hx (hb hby at_9) (1 : Int32) rfl (pc' := 10) rfl ?_
  refine o_bipush X2 hx (hb hby at_10) (65 : Int32) rfl (pc' := 12) rfl ?_
  refine o_iastore X2 hx hZ e2 A2 (hb hby at_12) (by decide) (by decide) (pc' := 13) rfl ?_
  intro T3 h3 X3 e3 W3
  have A3 : OAr Z h3 a1 .int 33 (ci (li [(0 : Int32), (65 : Int32), (0 : Int32), (0 : Int32), (0 : Int32), (0 : Int32), (0 : Int32), (0 : Int32), (0 : Int32), (0 : Int32), (0 : Int32), (0 : Int32), (0 : Int32), (0 : Int32), (0 : Int32), (0 : Int32), (0 : Int32), (0 : Int32), (0 : Int32), (0 : Int32), (0 : Int32), (0 : Int32), (0 : Int32), (0 : Int32), (0 : Int32), (0 : Int32), (0 : Int32), (0 : Int32), (0 : Int32), (0 : Int32), (0 : Int32), (0 : Int32), (0 : Int32)])) := OAr.setI (j := 1) (x := (65 : Int32)) W3 A2 (by decide)
  have N3 := Fr.snoc X3 N2 g1
  have z3 : n0 ≤ h3.size := Nat.le_trans z2 (Keep.of_wr W3).1
  refine o_dup X3 hx (hb hby at_13) rfl (pc' := 14) rfl ?_
  refine o_iconst X3 hx (hb hby at_14) (2 : Int32) rfl (pc' := 15) rfl ?_
  refine o_bipush X3 hx (hb hby at_15) (90 : Int32) rfl (pc' := 17) rfl ?_
  refine o_iastore X3 hx hZ e3 A3 (hb hby at_17) (by decide) (by decide) (pc' := 18) rfl ?_
  intro T4 h4 X4 e4 W4
  have A4 : OAr Z h4 a1 .int 33 (ci (li [(0 : Int32), (65 : Int32), (90 : Int32), (0 : Int32), (0 : Int32), (0 : Int32), (0 : Int32), (0 : Int32), (0 : Int32), (0 : Int32), (0 : Int32), (0 : Int32), (0 : Int32), (0 : Int32), (0 : Int32), (0 : Int32), (0 : Int32), (0 : Int32), (0 : Int32), (0 : Int32), (0 : Int32), (0 : Int32), (0 : Int32), (0 : Int32), (0 : Int32), (0 : Int32), (0 : Int32), (0 : Int32), (0 : Int32), (0 : Int32), (0 : Int32), (0 : Int32), (0 : Int32)])) := OAr.setI (j := 2) (x := (90 : Int32)) W4 A3 (by decide)
  have N4 := Fr.snoc X4 N3 g1
  have z4 : n0 ≤ h4.size := Nat.le_trans z3 (Keep.of_wr W4).1
  refine o_dup X4 hx (hb hby at_18) rfl (pc' := 19) rfl ?_
  refine o_iconst X4 hx (hb hby at_19) (3 : Int32) rfl (pc' := 20) rfl ?_
  refine o_bipush X4 hx (hb hby at_20) (95 : Int32) rfl (pc' := 22) rfl ?_
  refine o_iastore X4 hx hZ e4 A4 (hb hby at_22) (by decide) (by decide) (pc' := 23) rfl ?_
  intro T5 h5 X5 e5 W5
  have A5 : OAr Z h5 a1 .int 33 (ci (li [(0 : Int32), (65 : Int32), (90 : Int32), (95 : Int32), (0 : Int32), (0 : Int32), (0 : Int32), (0 : Int32), (0 : Int32), (0 : Int32), (0 : Int32), (0 : Int32), (0 : Int32), (0 : Int32), (0 : Int32), (0 : Int32), (0 : Int32), (0 : Int32), (0 : Int32), (0 : Int32), (0 : Int32), (0 : Int32), (0 : Int32), (0 : Int32), (0 : Int32), (0 : Int32), (0 : Int32), (0 : Int32), (0 : Int32), (0 : Int32), (0 : Int32), (0 : Int32), (0 : Int32)])) := OAr.setI (j := 3) (x := (95 : Int32)) W5 A4 (by decide)
  have N5 := Fr.snoc X5 N4 g1
  have z5 : n0 ≤ h5.size := Nat.le_trans z4 (Keep.of_wr W5).1
  refine o_dup X5 hx (hb hby at_23) rfl (pc' := 24) rfl ?_
  refine o_iconst X5 hx (hb hby at_24) (4 : Int32) rfl (pc' := 25) rfl ?_
  refine o_bipush X5 hx (hb hby at_25) (97 : Int32) rfl (pc' := 27) rfl ?_
  refine o_iastore X5 hx hZ e5 A5 (hb hby at_27) (by decide) (by decide) (pc' := 28) rfl ?_
  intro T6 h6 X6 e6 W6
  have A6 : OAr Z h6 a1 .int 33 (ci (li [(0 : Int32), (65 : Int32), (90 : Int32), (95 : Int32), (97 : Int32), (0 : Int32), (0 : Int32), (0 : Int32), (0 : Int32), (0 : Int32), (0 : Int32), (0 : Int32), (0 : Int32), (0 : Int32), (0 : Int32), (0 : Int32), (0 : Int32), (0 : Int32), (0 : Int32), (0 : Int32), (0 : Int32), (0 : Int32), (0 : Int32), (0 : Int32), (0 : Int32), (0 : Int32), (0 : Int32), (0 : Int32), (0 : Int32), (0 : Int32), (0 : Int32), (0 : Int32), (0 : Int32)])) := OAr.setI (j := 4) (x := (97 : Int32)) W6 A5 (by decide)
  have N6 := Fr.snoc X6 N5 g1
  have z6 : n0 ≤ h6.size := Nat.le_trans z5 (Keep.of_wr W6).1
  refine o_dup X6 hx (hb hby at_28) rfl (pc' := 29) rfl ?_
  refine o_iconst X6 hx (hb hby at_29) (5 : Int32) rfl (pc' := 30) rfl ?_
  refine o_bipush X6 hx (hb hby at_30) (122 : Int32) rfl (pc' := 32) rfl ?_
  refine o_iastore X6 hx hZ e6 A6 (hb hby at_32) (by decide) (by decide) (pc' := 33) rfl ?_
  intro T7 h7 X7 e7 W7
  have A7 : OAr Z h7 a1 .int 33 (ci (li [(0 : Int32), (65 : Int32), (90 : Int32), (95 : Int32), (97 : Int32), (122 : Int32), (0 : Int32), (0 : Int32), (0 : Int32), (0 : Int32), (0 : Int32), (0 : Int32), (0 : Int32), (0 : Int32), (0 : Int32), (0 : Int32), (0 : Int32), (0 : Int32), (0 : Int32), (0 : Int32), (0 : Int32), (0 : Int32), (0 : Int32), (0 : Int32), (0 : Int32), (0 : Int32), (0 : Int32), (0 : Int32), (0 : Int32), (0 : Int32), (0 : Int32), (0 : Int32), (0 : Int32)])) := OAr.setI (j := 5) (x := (122 : Int32)) W7 A6 (by decide)
  have N7 := Fr.snoc X7 N6 g1
  have z7 : n0 ≤ h7.size := Nat.le_trans z6 (Keep.of_wr W7).1
  refine o_dup X7 hx (hb hby at_33) rfl (pc' := 34) rfl ?_
  refine o_bipush X7 hx (hb hby at_34) (6 : Int32) rfl (pc' := 36) rfl ?_
  refine o_sipush X7 hx (hb hby at_36) (192 : Int32) rfl (pc' := 39) rfl ?_
  refine o_iastore X7 hx hZ e7 A7 (hb hby at_39) (by decide) (by decide) (pc' := 40) rfl ?_
  intro T8 h8 X8 e8 W8
  have A8 : OAr Z h8 a1 .int 33 (ci (li [(0 : Int32), (65 : Int32), (90 : Int32), (95 : Int32), (97 : Int32), (122 : Int32), (192 : Int32), (0 : Int32), (0 : Int32), (0 : Int32), (0 : Int32), (0 : Int32), (0 : Int32), (0 : Int32), (0 : Int32), (0 : Int32), (0 : Int32), (0 : Int32), (0 : Int32), (0 : Int32), (0 : Int32), (0 : Int32), (0 : Int32), (0 : Int32), (0 : Int32), (0 : Int32), (0 : Int32), (0 : Int32), (0 : Int32), (0 : Int32), (0 : Int32), (0 : Int32), (0 : Int32)])) := OAr.setI (j := 6) (x := (192 : Int32)) W8 A7 (by decide)
  have N8 := Fr.snoc X8 N7 g1
  have z8 : n0 ≤ h8.size := Nat.le_trans z7 (Keep.of_wr W8).1
  refine o_dup X8 hx (hb hby at_40) rfl (pc' := 41) rfl ?_
  refine o_bipush X8 hx (hb hby at_41) (7 : Int32) rfl (pc' := 43) rfl ?_
  refine o_sipush X8 hx (hb hby at_43) (214 : Int32) rfl (pc' := 46) rfl ?_
  refine o_iastore X8 hx hZ e8 A8 (hb hby at_46) (by decide) (by decide) (pc' := 47) rfl ?_
  intro T9 h9 X9 e9 W9
  have A9 : OAr Z h9 a1 .int 33 (ci (li [(0 : Int32), (65 : Int32), (90 : Int32), (95 : Int32), (97 : Int32), (122 : Int32), (192 : Int32), (214 : Int32), (0 : Int32), (0 : Int32), (0 : Int32), (0 : Int32), (0 : Int32), (0 : Int32), (0 : Int32), (0 : Int32), (0 : Int32), (0 : Int32), (0 : Int32), (0 : Int32), (0 : Int32), (0 : Int32), (0 : Int32), (0 : Int32), (0 : Int32), (0 : Int32), (0 : Int32), (0 : Int32), (0 : Int32), (0 : Int32), (0 : Int32), (0 : Int32), (0 : Int32)])) := OAr.setI (j := 7) (x := (214 : Int32)) W9 A8 (by decide)
  have N9 := Fr.snoc X9 N8 g1
  have z9 : n0 ≤ h9.size := Nat.le_trans z8 (Keep.of_wr W9).1
  refine o_dup X9 hx (hb hby at_47) rfl (pc' := 48) rfl ?_
  refine o_bipush X9 hx (hb hby at_48) (8 : Int32) rfl (pc' := 50) rfl ?_
  refine o_sipush X9 hx (hb hby at_50) (215 : Int32) rfl (pc' := 53) rfl ?_
  refine o_iastore X9 hx hZ e9 A9 (hb hby at_53) (by decide) (by decide) (pc' := 54) rfl ?_
  intro T10 h10 X10 e10 W10
  have A10 : OAr Z h10 a1 .int 33 (ci (li [(0 : Int32), (65 : Int32), (90 : Int32), (95 : Int32), (97 : Int32), (122 : Int32), (192 : Int32), (214 : Int32), (215 : Int32), (0 : Int32), (0 : Int32), (0 : Int32), (0 : Int32), (0 : Int32), (0 : Int32), (0 : Int32), (0 : Int32), (0 : Int32), (0 : Int32), (0 : Int32), (0 : Int32), (0 : Int32), (0 : Int32), (0 : Int32), (0 : Int32), (0 : Int32), (0 : Int32), (0 : Int32), (0 : Int32), (0 : Int32), (0 : Int32), (0 : Int32), (0 : Int32)])) := OAr.setI (j := 8) (x := (215 : Int32)) W10 A9 (by decide)
  have N10 := Fr.snoc X10 N9 g1
  have z10 : n0 ≤ h10.size := Nat.le_trans z9 (Keep.of_wr W10).1
  refine o_dup X10 hx (hb hby at_54) rfl (pc' := 55) rfl ?_
  refine o_bipush X10 hx (hb hby at_55) (9 : Int32) rfl (pc' := 57) rfl ?_
  refine o_sipush X10 hx (hb hby at_57) (216 : Int32) rfl (pc' := 60) rfl ?_
  refine o_iastore X10 hx hZ e10 A10 (hb hby at_60) (by decide) (by decide) (pc' := 61) rfl ?_
  intro T11 h11 X11 e11 W11
  have A11 : OAr Z h11 a1 .int 33 (ci (li [(0 : Int32), (65 : Int32), (90 : Int32), (95 : Int32), (97 : Int32), (122 : Int32), (192 : Int32), (214 : Int32), (215 : Int32), (216 : Int32), (0 : Int32), (0 : Int32), (0 : Int32), (0 : Int32), (0 : Int32), (0 : Int32), (0 : Int32), (0 : Int32), (0 : Int32), (0 : Int32), (0 : Int32), (0 : Int32), (0 : Int32), (0 : Int32), (0 : Int32), (0 : Int32), (0 : Int32), (0 : Int32), (0 : Int32), (0 : Int32), (0 : Int32), (0 : Int32), (0 : Int32)])) := OAr.setI (j := 9) (x := (216 : Int32)) W11 A10 (by decide)
  have N11 := Fr.snoc X11 N10 g1
  have z11 : n0 ≤ h11.size := Nat.le_trans z10 (Keep.of_wr W11).1
  refine o_dup X11 hx (hb hby at_61) rfl (pc' := 62) rfl ?_
  refine o_bipush X11 hx (hb hby at_62) (10 : Int32) rfl (pc' := 64) rfl ?_
  refine o_sipush X11 hx (hb hby at_64) (246 : Int32) rfl (pc' := 67) rfl ?_
  refine o_iastore X11 hx hZ e11 A11 (hb hby at_67) (by decide) (by decide) (pc' := 68) rfl ?_
  intro T12 h12 X12 e12 W12
  have A12 : OAr Z h12 a1 .int 33 (ci (li [(0 : Int32), (65 : Int32), (90 : Int32), (95 : Int32), (97 : Int32), (122 : Int32), (192 : Int32), (214 : Int32), (215 : Int32), (216 : Int32), (246 : Int32), (0 : Int32), (0 : Int32), (0 : Int32), (0 : Int32), (0 : Int32), (0 : Int32), (0 : Int32), (0 : Int32), (0 : Int32), (0 : Int32), (0 : Int32), (0 : Int32), (0 : Int32), (0 : Int32), (0 : Int32), (0 : Int32), (0 : Int32), (0 : Int32), (0 : Int32), (0 : Int32), (0 : Int32), (0 : Int32)])) := OAr.setI (j := 10) (x := (246 : Int32)) W12 A11 (by decide)
  have N12 := Fr.snoc X12 N11 g1
  have z12 : n0 ≤ h12.size := Nat.le_trans z11 (Keep.of_wr W12).1
  refine o_dup X12 hx (hb hby at_68) rfl (pc' := 69) rfl ?_
  refine o_bipush X12 hx (hb hby at_69) (11 : Int32) rfl (pc' := 71) rfl ?_
  refine o_sipush X12 hx (hb hby at_71) (247 : Int32) rfl (pc' := 74) rfl ?_
  refine o_iastore X12 hx hZ e12 A12 (hb hby at_74) (by decide) (by decide) (pc' := 75) rfl ?_
  intro T13 h13 X13 e13 W13
  have A13 : OAr Z h13 a1 .int 33 (ci (li [(0 : Int32), (65 : Int32), (90 : Int32), (95 : Int32), (97 : Int32), (122 : Int32), (192 : Int32), (214 : Int32), (215 : Int32), (216 : Int32), (246 : Int32), (247 : Int32), (0 : Int32), (0 : Int32), (0 : Int32), (0 : Int32), (0 : Int32), (0 : Int32), (0 : Int32), (0 : Int32), (0 : Int32), (0 : Int32), (0 : Int32), (0 : Int32), (0 : Int32), (0 : Int32), (0 : Int32), (0 : Int32), (0 : Int32), (0 : Int32), (0 : Int32), (0 : Int32), (0 : Int32)])) := OAr.setI (j := 11) (x := (247 : Int32)) W13 A12 (by decide)
  have N13 := Fr.snoc X13 N12 g1
  have z13 : n0 ≤ h13.size := Nat.le_trans z12 (Keep.of_wr W13).1
  refine o_dup X13 hx (hb hby at_75) rfl (pc' := 76) rfl ?_
  refine o_bipush X13 hx (hb hby at_76) (12 : Int32) rfl (pc' := 78) rfl ?_
  refine o_sipush X13 hx (hb hby at_78) (248 : Int32) rfl (pc' := 81) rfl ?_
  refine o_iastore X13 hx hZ e13 A13 (hb hby at_81) (by decide) (by decide) (pc' := 82) rfl ?_
  intro T14 h14 X14 e14 W14
  have A14 : OAr Z h14 a1 .int 33 (ci (li [(0 : Int32), (65 : Int32), (90 : Int32), (95 : Int32), (97 : Int32), (122 : Int32), (192 : Int32), (214 : Int32), (215 : Int32), (216 : Int32), (246 : Int32), (247 : Int32), (248 : Int32), (0 : Int32), (0 : Int32), (0 : Int32), (0 : Int32), (0 : Int32), (0 : Int32), (0 : Int32), (0 : Int32), (0 : Int32), (0 : Int32), (0 : Int32), (0 : Int32), (0 : Int32), (0 : Int32), (0 : Int32), (0 : Int32), (0 : Int32), (0 : Int32), (0 : Int32), (0 : Int32)])) := OAr.setI (j := 12) (x := (248 : Int32)) W14 A13 (by decide)
  have N14 := Fr.snoc X14 N13 g1
  have z14 : n0 ≤ h14.size := Nat.le_trans z13 (Keep.of_wr W14).1
  refine o_dup X14 hx (hb hby at_82) rfl (pc' := 83) rfl ?_
  refine o_bipush X14 hx (hb hby at_83) (13 : Int32) rfl (pc' := 85) rfl ?_
  refine o_sipush X14 hx (hb hby at_85) (767 : Int32) rfl (pc' := 88) rfl ?_
  refine o_iastore X14 hx hZ e14 A14 (hb hby at_88) (by decide) (by decide) (pc' := 89) rfl ?_
  intro T15 h15 X15 e15 W15
  have A15 : OAr Z h15 a1 .int 33 (ci (li [(0 : Int32), (65 : Int32), (90 : Int32), (95 : Int32), (97 : Int32), (122 : Int32), (192 : Int32), (214 : Int32), (215 : Int32), (216 : Int32), (246 : Int32), (247 : Int32), (248 : Int32), (767 : Int32), (0 : Int32), (0 : Int32), (0 : Int32), (0 : Int32), (0 : Int32), (0 : Int32), (0 : Int32), (0 : Int32), (0 : Int32), (0 : Int32), (0 : Int32), (0 : Int32), (0 : Int32), (0 : Int32), (0 : Int32), (0 : Int32), (0 : Int32), (0 : Int32), (0 : Int32)])) := OAr.setI (j := 13) (x := (767 : Int32)) W15 A14 (by decide)
  have N15 := Fr.snoc X15 N14 g1
  have z15 : n0 ≤ h15.size := Nat.le_trans z14 (Keep.of_wr W15).1
  refine o_dup X15 hx (hb hby at_89) rfl (pc' := 90) rfl ?_
  refine o_bipush X15 hx (hb hby at_90) (14 : Int32) rfl (pc' := 92) rfl ?_
  refine o_sipush X15 hx (hb hby at_92) (880 : Int32) rfl (pc' := 95) rfl ?_
  refine o_iastore X15 hx hZ e15 A15 (hb hby at_95) (by decide) (by decide) (pc' := 96) rfl ?_
  intro T16 h16 X16 e16 W16
  have A16 : OAr Z h16 a1 .int 33 (ci (li [(0 : Int32), (65 : Int32), (90 : Int32), (95 : Int32), (97 : Int32), (122 : Int32), (192 : Int32), (214 : Int32), (215 : Int32), (216 : Int32), (246 : Int32), (247 : Int32), (248 : Int32), (767 : Int32), (880 : Int32), (0 : Int32), (0 : Int32), (0 : Int32), (0 : Int32), (0 : Int32), (0 : Int32), (0 : Int32), (0 : Int32), (0 : Int32), (0 : Int32), (0 : Int32), (0 : Int32), (0 : Int32), (0 : Int32), (0 : Int32), (0 : Int32), (0 : Int32), (0 : Int32)])) := OAr.setI (j := 14) (x := (880 : Int32)) W16 A15 (by decide)
  have N16 := Fr.snoc X16 N15 g1
  have z16 : n0 ≤ h16.size := Nat.le_trans z15 (Keep.of_wr W16).1
  refine o_dup X16 hx (hb hby at_96) rfl (pc' := 97) rfl ?_
  refine o_bipush X16 hx (hb hby at_97) (15 : Int32) rfl (pc' := 99) rfl ?_
  refine o_sipush X16 hx (hb hby at_99) (893 : Int32) rfl (pc' := 102) rfl ?_
  refine o_iastore X16 hx hZ e16 A16 (hb hby at_102) (by decide) (by decide) (pc' := 103) rfl ?_
  intro T17 h17 X17 e17 W17
  have A17 : OAr Z h17 a1 .int 33 (ci (li [(0 : Int32), (65 : Int32), (90 : Int32), (95 : Int32), (97 : Int32), (122 : Int32), (192 : Int32), (214 : Int32), (215 : Int32), (216 : Int32), (246 : Int32), (247 : Int32), (248 : Int32), (767 : Int32), (880 : Int32), (893 : Int32), (0 : Int32), (0 : Int32), (0 : Int32), (0 : Int32), (0 : Int32), (0 : Int32), (0 : Int32), (0 : Int32), (0 : Int32), (0 : Int32), (0 : Int32), (0 : Int32), (0 : Int32), (0 : Int32), (0 : Int32), (0 : Int32), (0 : Int32)])) := OAr.setI (j := 15) (x := (893 : Int32)) W17 A16 (by decide)
  have N17 := Fr.snoc X17 N16 g1
  have z17 : n0 ≤ h17.size := Nat.le_trans z16 (Keep.of_wr W17).1
  refine o_dup X17 hx (hb hby at_103) rfl (pc' := 104) rfl ?_
  refine o_bipush X17 hx (hb hby at_104) (16 : Int32) rfl (pc' := 106) rfl ?_
  refine o_sipush X17 hx (hb hby at_106) (894 : Int32) rfl (pc' := 109) rfl ?_
  refine o_iastore X17 hx hZ e17 A17 (hb hby at_109) (by decide) (by decide) (pc' := 110) rfl ?_
  intro T18 h18 X18 e18 W18
  have A18 : OAr Z h18 a1 .int 33 (ci (li [(0 : Int32), (65 : Int32), (90 : Int32), (95 : Int32), (97 : Int32), (122 : Int32), (192 : Int32), (214 : Int32), (215 : Int32), (216 : Int32), (246 : Int32), (247 : Int32), (248 : Int32), (767 : Int32), (880 : Int32), (893 : Int32), (894 : Int32), (0 : Int32), (0 : Int32), (0 : Int32), (0 : Int32), (0 : Int32), (0 : Int32), (0 : Int32), (0 : Int32), (0 : Int32), (0 : Int32), (0 : Int32), (0 : Int32), (0 : Int32), (0 : Int32), (0 : Int32), (0 : Int32)])) := OAr.setI (j := 16) (x := (894 : Int32)) W18 A17 (by decide)
  have N18 := Fr.snoc X18 N17 g1
  have z18 : n0 ≤ h18.size := Nat.le_trans z17 (Keep.of_wr W18).1
  refine o_dup X18 hx (hb hby at_110) rfl (pc' := 111) rfl ?_
  refine o_bipush X18 hx (hb hby at_111) (17 : Int32) rfl (pc' := 113) rfl ?_
  refine o_sipush X18 hx (hb hby at_113) (895 : Int32) rfl (pc' := 116) rfl ?_
  refine o_iastore X18 hx hZ e18 A18 (hb hby at_116) (by decide) (by decide) (pc' := 117) rfl ?_
  intro T19 h19 X19 e19 W19
  have A19 : OAr Z h19 a1 .int 33 (ci (li [(0 : Int32), (65 : Int32), (90 : Int32), (95 : Int32), (97 : Int32), (122 : Int32), (192 : Int32), (214 : Int32), (215 : Int32), (216 : Int32), (246 : Int32), (247 : Int32), (248 : Int32), (767 : Int32), (880 : Int32), (893 : Int32), (894 : Int32), (895 : Int32), (0 : Int32), (0 : Int32), (0 : Int32), (0 : Int32), (0 : Int32), (0 : Int32), (0 : Int32), (0 : Int32), (0 : Int32), (0 : Int32), (0 : Int32), (0 : Int32), (0 : Int32), (0 : Int32), (0 : Int32)])) := OAr.setI (j := 17) (x := (895 : Int32)) W19 A18 (by decide)
  have N19 := Fr.snoc X19 N18 g1
  have z19 : n0 ≤ h19.size := Nat.le_trans z18 (Keep.of_wr W19).1
  refine o_dup X19 hx (hb hby at_117) rfl (pc' := 118) rfl ?_
  refine o_bipush X19 hx (hb hby at_118) (18 : Int32) rfl (pc' := 120) rfl ?_
  refine o_sipush X19 hx (hb hby at_120) (8191 : Int32) rfl (pc' := 123) rfl ?_
  refine o_iastore X19 hx hZ e19 A19 (hb hby at_123) (by decide) (by decide) (pc' := 124) rfl ?_
  intro T20 h20 X20 e20 W20
  have A20 : OAr Z h20 a1 .int 33 (ci (li [(0 : Int32), (65 : Int32), (90 : Int32), (95 : Int32), (97 : Int32), (122 : Int32), (192 : Int32), (214 : Int32), (215 : Int32), (216 : Int32), (246 : Int32), (247 : Int32), (248 : Int32), (767 : Int32), (880 : Int32), (893 : Int32), (894 : Int32), (895 : Int32), (8191 : Int32), (0 : Int32), (0 : Int32), (0 : Int32), (0 : Int32), (0 : Int32), (0 : Int32), (0 : Int32), (0 : Int32), (0 : Int32), (0 : Int32), (0 : Int32), (0 : Int32), (0 : Int32), (0 : Int32)])) := OAr.setI (j := 18) (x := (8191 : Int32)) W20 A19 (by decide)
  have N20 := Fr.snoc X20 N19 g1
  have z20 : n0 ≤ h20.size := Nat.le_trans z19 (Keep.of_wr W20).1
  refine o_dup X20 hx (hb hby at_124) rfl (pc' := 125) rfl ?_
  refine o_bipush X20 hx (hb hby at_125) (19 : Int32) rfl (pc' := 127) rfl ?_
  refine o_sipush X20 hx (hb hby at_127) (8204 : Int32) rfl (pc' := 130) rfl ?_
  refine o_iastore X20 hx hZ e20 A20 (hb hby at_130) (by decide) (by decide) (pc' := 131) rfl ?_
  intro T21 h21 X21 e21 W21
  have A21 : OAr Z h21 a1 .int 33 (ci (li [(0 : Int32), (65 : Int32), (90 : Int32), (95 : Int32), (97 : Int32), (122 : Int32), (192 : Int32), (214 : Int32), (215 : Int32), (216 : Int32), (246 : Int32), (247 : Int32), (248 : Int32), (767 : Int32), (880 : Int32), (893 : Int32), (894 : Int32), (895 : Int32), (8191 : Int32), (8204 : Int32), (0 : Int32), (0 : Int32), (0 : Int32), (0 : Int32), (0 : Int32), (0 : Int32), (0 : Int32), (0 : Int32), (0 : Int32), (0 : Int32), (0 : Int32), (0 : Int32), (0 : Int32)])) := OAr.setI (j := 19) (x := (8204 : Int32)) W21 A20 (by decide)
  have N21 := Fr.snoc X21 N20 g1
  have z21 : n0 ≤ h21.size := Nat.le_trans z20 (Keep.of_wr W21).1
  refine o_dup X21 hx (hb hby at_131) rfl (pc' := 132) rfl ?_
  refine o_bipush X21 hx (hb hby at_132) (20 : Int32) rfl (pc' := 134) rfl ?_
  refine o_sipush X21 hx (hb hby at_134) (8205 : Int32) rfl (pc' := 137) rfl ?_
  refine o_iastore X21 hx hZ e21 A21 (hb hby at_137) (by decide) (by decide) (pc' := 138) rfl ?_
  intro T22 h22 X22 e22 W22
  have A22 : OAr Z h22 a1 .int 33 (ci (li [(0 : Int32), (65 : Int32), (90 : Int32), (95 : Int32), (97 : Int32), (122 : Int32), (192 : Int32), (214 : Int32), (215 : Int32), (216 : Int32), (246 : Int32), (247 : Int32), (248 : Int32), (767 : Int32), (880 : Int32), (893 : Int32), (894 : Int32), (895 : Int32), (8191 : Int32), (8204 : Int32), (8205 : Int32), (0 : Int32), (0 : Int32), (0 : Int32), (0 : Int32), (0 : Int32), (0 : Int32), (0 : Int32), (0 : Int32), (0 : Int32), (0 : Int32), (0 : Int32), (0 : Int32)])) := OAr.setI (j := 20) (x := (8205 : Int32)) W22 A21 (by decide)
  have N22 := Fr.snoc X22 N21 g1
  have z22 : n0 ≤ h22.size := Nat.le_trans z21 (Keep.of_wr W22).1
  refine o_dup X22 hx (hb hby at_138) rfl (pc' := 139) rfl ?_
  refine o_bipush X22 hx (hb hby at_139) (21 : Int32) rfl (pc' := 141) rfl ?_
  refine o_sipush X22 hx (hb hby at_141) (8304 : Int32) rfl (pc' := 144) rfl ?_
  refine o_iastore X22 hx hZ e22 A22 (hb hby at_144) (by decide) (by decide) (pc' := 145) rfl ?_
  intro T23 h23 X23 e23 W23
  have A23 : OAr Z h23 a1 .int 33 (ci (li [(0 : Int32), (65 : Int32), (90 : Int32), (95 : Int32), (97 : Int32), (122 : Int32), (192 : Int32), (214 : Int32), (215 : Int32), (216 : Int32), (246 : Int32), (247 : Int32), (248 : Int32), (767 : Int32), (880 : Int32), (893 : Int32), (894 : Int32), (895 : Int32), (8191 : Int32), (8204 : Int32), (8205 : Int32), (8304 : Int32), (0 : Int32), (0 : Int32), (0 : Int32), (0 : Int32), (0 : Int32), (0 : Int32), (0 : Int32), (0 : Int32), (0 : Int32), (0 : Int32), (0 : Int32)])) := OAr.setI (j := 21) (x := (8304 : Int32)) W23 A22 (by decide)
  have N23 := Fr.snoc X23 N22 g1
  have z23 : n0 ≤ h23.size := Nat.le_trans z22 (Keep.of_wr W23).1
  refine o_dup X23 hx (hb hby at_145) rfl (pc' := 146) rfl ?_
  refine o_bipush X23 hx (hb hby at_146) (22 : Int32) rfl (pc' := 148) rfl ?_
  refine o_sipush X23 hx (hb hby at_148) (8591 : Int32) rfl (pc' := 151) rfl ?_
  refine o_iastore X23 hx hZ e23 A23 (hb hby at_151) (by decide) (by decide) (pc' := 152) rfl ?_
  intro T24 h24 X24 e24 W24
  have A24 : OAr Z h24 a1 .int 33 (ci (li [(0 : Int32), (65 : Int32), (90 : Int32), (95 : Int32), (97 : Int32), (122 : Int32), (192 : Int32), (214 : Int32), (215 : Int32), (216 : Int32), (246 : Int32), (247 : Int32), (248 : Int32), (767 : Int32), (880 : Int32), (893 : Int32), (894 : Int32), (895 : Int32), (8191 : Int32), (8204 : Int32), (8205 : Int32), (8304 : Int32), (8591 : Int32), (0 : Int32), (0 : Int32), (0 : Int32), (0 : Int32), (0 : Int32), (0 : Int32), (0 : Int32), (0 : Int32), (0 : Int32), (0 : Int32)])) := OAr.setI (j := 22) (x := (8591 : Int32)) W24 A23 (by decide)
  have N24 := Fr.snoc X24 N23 g1
  have z24 : n0 ≤ h24.size := Nat.le_trans z23 (Keep.of_wr W24).1
  refine o_dup X24 hx (hb hby at_152) rfl (pc' := 153) rfl ?_
  refine o_bipush X24 hx (hb hby at_153) (23 : Int32) rfl (pc' := 155) rfl ?_
  refine o_sipush X24 hx (hb hby at_155) (11264 : Int32) rfl (pc' := 158) rfl ?_
  refine o_iastore X24 hx hZ e24 A24 (hb hby at_158) (by decide) (by decide) (pc' := 159) rfl ?_
  intro T25 h25 X25 e25 W25
  have A25 : OAr Z h25 a1 .int 33 (ci (li [(0 : Int32), (65 : Int32), (90 : Int32), (95 : Int32), (97 : Int32), (122 : Int32), (192 : Int32), (214 : Int32), (215 : Int32), (216 : Int32), (246 : Int32), (247 : Int32), (248 : Int32), (767 : Int32), (880 : Int32), (893 : Int32), (894 : Int32), (895 : Int32), (8191 : Int32), (8204 : Int32), (8205 : Int32), (8304 : Int32), (8591 : Int32), (11264 : Int32), (0 : Int32), (0 : Int32), (0 : Int32), (0 : Int32), (0 : Int32), (0 : Int32), (0 : Int32), (0 : Int32), (0 : Int32)])) := OAr.setI (j := 23) (x := (11264 : Int32)) W25 A24 (by decide)
  have N25 := Fr.snoc X25 N24 g1
  have z25 : n0 ≤ h25.size := Nat.le_trans z24 (Keep.of_wr W25).1
  refine o_dup X25 hx (hb hby at_159) rfl (pc' := 160) rfl ?_
  refine o_bipush X25 hx (hb hby at_160) (24 : Int32) rfl (pc' := 162) rfl ?_
  refine o_sipush X25 hx (hb hby at_162) (12271 : Int32) rfl (pc' := 165) rfl ?_
  refine o_iastore X25 hx hZ e25 A25 (hb hby at_165) (by decide) (by decide) (pc' := 166) rfl ?_
  intro T26 h26 X26 e26 W26
  have A26 : OAr Z h26 a1 .int 33 (ci (li [(0 : Int32), (65 : Int32), (90 : Int32), (95 : Int32), (97 : Int32), (122 : Int32), (192 : Int32), (214 : Int32), (215 : Int32), (216 : Int32), (246 : Int32), (247 : Int32), (248 : Int32), (767 : Int32), (880 : Int32), (893 : Int32), (894 : Int32), (895 : Int32), (8191 : Int32), (8204 : Int32), (8205 : Int32), (8304 : Int32), (8591 : Int32), (11264 : Int32), (12271 : Int32), (0 : Int32), (0 : Int32), (0 : Int32), (0 : Int32), (0 : Int32), (0 : Int32), (0 : Int32), (0 : Int32)])) := OAr.setI (j := 24) (x := (12271 : Int32)) W26 A25 (by decide)
  have N26 := Fr.snoc X26 N25 g1
  have z26 : n0 ≤ h26.size := Nat.le_trans z25 (Keep.of_wr W26).1
  refine o_dup X26 hx (hb hby at_166) rfl (pc' := 167) rfl ?_
  refine o_bipush X26 hx (hb hby at_167) (25 : Int32) rfl (pc' := 169) rfl ?_
  refine o_sipush X26 hx (hb hby at_169) (12289 : Int32) rfl (pc' := 172) rfl ?_
  refine o_iastore X26 hx hZ e26 A26 (hb hby at_172) (by decide) (by decide) (pc' := 173) rfl ?_
  intro T27 h27 X27 e27 W27
  have A27 : OAr Z h27 a1 .int 33 (ci (li [(0 : Int32), (65 : Int32), (90 : Int32), (95 : Int32), (97 : Int32), (122 : Int32), (192 : Int32), (214 : Int32), (215 : Int32), (216 : Int32), (246 : Int32), (247 : Int32), (248 : Int32), (767 : Int32), (880 : Int32), (893 : Int32), (894 : Int32), (895 : Int32), (8191 : Int32), (8204 : Int32), (8205 : Int32), (8304 : Int32), (8591 : Int32), (11264 : Int32), (12271 : Int32), (12289 : Int32), (0 : Int32), (0 : Int32), (0 : Int32), (0 : Int32), (0 : Int32), (0 : Int32), (0 : Int32)])) := OAr.setI (j := 25) (x := (12289 : Int32)) W27 A26 (by decide)
  have N27 := Fr.snoc X27 N26 g1
  have z27 : n0 ≤ h27.size := Nat.le_trans z26 (Keep.of_wr W27).1
  refine o_dup X27 hx (hb hby at_173) rfl (pc' := 174) rfl ?_
  refine o_bipush X27 hx (hb hby at_174) (26 : Int32) rfl (pc' := 176) rfl ?_
  refine o_ldcInt X27 hx hZ hown (hb hby at_176) (hw _ (List.mem_of_getElem? (i := 1) rfl)) (pc' := 178) rfl ?_
  refine o_iastore X27 hx hZ e27 A27 (hb hby at_178) (by decide) (by decide) (pc' := 179) rfl ?_
  intro T28 h28 X28 e28 W28
  have A28 : OAr Z h28 a1 .int 33 (ci (li [(0 : Int32), (65 : Int32), (90 : Int32), (95 : Int32), (97 : Int32), (122 : Int32), (192 : Int32), (214 : Int32), (215 : Int32), (216 : Int32), (246 : Int32), (247 : Int32), (248 : Int32), (767 : Int32), (880 : Int32), (893 : Int32), (894 : Int32), (895 : Int32), (8191 : Int32), (8204 : Int32), (8205 : Int32), (8304 : Int32), (8591 : Int32), (11264 : Int32), (12271 : Int32), (12289 : Int32), (55295 : Int32), (0 : Int32), (0 : Int32), (0 : Int32), (0 : Int32), (0 : Int32), (0 : Int32)])) := OAr.setI (j := 26) (x := (55295 : Int32)) W28 A27 (by decide)
  have N28 := Fr.snoc X28 N27 g1
  have z28 : n0 ≤ h28.size := Nat.le_trans z27 (Keep.of_wr W28).1
  refine o_dup X28 hx (hb hby at_179) rfl (pc' := 180) rfl ?_
  refine o_bipush X28 hx (hb hby at_180) (27 : Int32) rfl (pc' := 182) rfl ?_
  refine o_ldcInt X28 hx hZ hown (hb hby at_182) (hw _ (List.mem_of_getElem? (i := 2) rfl)) (pc' := 184) rfl ?_
  refine o_iastore X28 hx hZ e28 A28 (hb hby at_184) (by decide) (by decide) (pc' := 185) rfl ?_
  intro T29 h29 X29 e29 W29
  have A29 : OAr Z h29 a1 .int 33 (ci (li [(0 : Int32), (65 : Int32), (90 : Int32), (95 : Int32), (97 : Int32), (122 : Int32), (192 : Int32), (214 : Int32), (215 : Int32), (216 : Int32), (246 : Int32), (247 : Int32), (248 : Int32), (767 : Int32), (880 : Int32), (893 : Int32), (894 : Int32), (895 : Int32), (8191 : Int32), (8204 : Int32), (8205 : Int32), (8304 : Int32), (8591 : Int32), (11264 : Int32), (12271 : Int32), (12289 : Int32), (55295 : Int32), (63744 : Int32), (0 : Int32), (0 : Int32), (0 : Int32), (0 : Int32), (0 : Int32)])) := OAr.setI (j := 27) (x := (63744 : Int32)) W29 A28 (by decide)
  have N29 := Fr.snoc X29 N28 g1
  have z29 : n0 ≤ h29.size := Nat.le_trans z28 (Keep.of_wr W29).1
  refine o_dup X29 hx (hb hby at_185) rfl (pc' := 186) rfl ?_
  refine o_bipush X29 hx (hb hby at_186) (28 : Int32) rfl (pc' := 188) rfl ?_
  refine o_ldcInt X29 hx hZ hown (hb hby at_188) (hw _ (List.mem_of_getElem? (i := 3) rfl)) (pc' := 190) rfl ?_
  refine o_iastore X29 hx hZ e29 A29 (hb hby at_190) (by decide) (by decide) (pc' := 191) rfl ?_
  intro T30 h30 X30 e30 W30
  have A30 : OAr Z h30 a1 .int 33 (ci (li [(0 : Int32), (65 : Int32), (90 : Int32), (95 : Int32), (97 : Int32), (122 : Int32), (192 : Int32), (214 : Int32), (215 : Int32), (216 : Int32), (246 : Int32), (247 : Int32), (248 : Int32), (767 : Int32), (880 : Int32), (893 : Int32), (894 : Int32), (895 : Int32), (8191 : Int32), (8204 : Int32), (8205 : Int32), (8304 : Int32), (8591 : Int32), (11264 : Int32), (12271 : Int32), (12289 : Int32), (55295 : Int32), (63744 : Int32), (64975 : Int32), (0 : Int32), (0 : Int32), (0 : Int32), (0 : Int32)])) := OAr.setI (j := 28) (x := (64975 : Int32)) W30 A29 (by decide)
  have N30 := Fr.snoc X30 N29 g1
  have z30 : n0 ≤ h30.size := Nat.le_trans z29 (Keep.of_wr W30).1
  refine o_dup X30 hx (hb hby at_191) rfl (pc' := 192) rfl ?_
  refine o_bipush X30 hx (hb hby at_192) (29 : Int32) rfl (pc' := 194) rfl ?_
  refine o_ldcInt X30 hx hZ hown (hb hby at_194) (hw _ (List.mem_of_getElem? (i := 4) rfl)) (pc' := 196) rfl ?_
  refine o_iastore X30 hx hZ e30 A30 (hb hby at_196) (by decide) (by decide) (pc' := 197) rfl ?_
  intro T31 h31 X31 e31 W31
  have A31 : OAr Z h31 a1 .int 33 (ci (li [(0 : Int32), (65 : Int32), (90 : Int32), (95 : Int32), (97 : Int32), (122 : Int32), (192 : Int32), (214 : Int32), (215 : Int32), (216 : Int32), (246 : Int32), (247 : Int32), (248 : Int32), (767 : Int32), (880 : Int32), (893 : Int32), (894 : Int32), (895 : Int32), (8191 : Int32), (8204 : Int32), (8205 : Int32), (8304 : Int32), (8591 : Int32), (11264 : Int32), (12271 : Int32), (12289 : Int32), (55295 : Int32), (63744 : Int32), (64975 : Int32), (65008 : Int32), (0 : Int32), (0 : Int32), (0 : Int32)])) := OAr.setI (j := 29) (x := (65008 : Int32)) W31 A30 (by decide)
  have N31 := Fr.snoc X31 N30 g1
  have z31 : n0 ≤ h31.size := Nat.le_trans z30 (Keep.of_wr W31).1
  refine o_dup X31 hx (hb hby at_197) rfl (pc' := 198) rfl ?_
  refine o_bipush X31 hx (hb hby at_198) (30 : Int32) rfl (pc' := 200) rfl ?_
  refine o_ldcInt X31 hx hZ hown (hb hby at_200) (hw _ (List.mem_of_getElem? (i := 5) rfl)) (pc' := 202) rfl ?_
  refine o_iastore X31 hx hZ e31 A31 (hb hby at_202) (by decide) (by decide) (pc' := 203) rfl ?_
  intro T32 h32 X32 e32 W32
  have A32 : OAr Z h32 a1 .int 33 (ci (li [(0 : Int32), (65 : Int32), (90 : Int32), (95 : Int32), (97 : Int32), (122 : Int32), (192 : Int32), (214 : Int32), (215 : Int32), (216 : Int32), (246 : Int32), (247 : Int32), (248 : Int32), (767 : Int32), (880 : Int32), (893 : Int32), (894 : Int32), (895 : Int32), (8191 : Int32), (8204 : Int32), (8205 : Int32), (8304 : Int32), (8591 : Int32), (11264 : Int32), (12271 : Int32), (12289 : Int32), (55295 : Int32), (63744 : Int32), (64975 : Int32), (65008 : Int32), (65533 : Int32), (0 : Int32), (0 : Int32)])) := OAr.setI (j := 30) (x := (65533 : Int32)) W32 A31 (by decide)
  have N32 := Fr.snoc X32 N31 g1
  have z32 : n0 ≤ h32.size := Nat.le_trans z31 (Keep.of_wr W32).1
  refine o_dup X32 hx (hb hby at_203) rfl (pc' := 204) rfl ?_
  refine o_bipush X32 hx (hb hby at_204) (31 : Int32) rfl (pc' := 206) rfl ?_
  refine o_ldcInt X32 hx hZ hown (hb hby at_206) (hw _ (List.mem_of_getElem? (i := 6) rfl)) (pc' := 208) rfl ?_
  refine o_iastore X32 hx hZ e32 A32 (hb hby at_208) (by decide) (by decide) (pc' := 209) rfl ?_
  intro T33 h33 X33 e33 W33
  have A33 : OAr Z h33 a1 .int 33 (ci (li [(0 : Int32), (65 : Int32), (90 : Int32), (95 : Int32), (97 : Int32), (122 : Int32), (192 : Int32), (214 : Int32), (215 : Int32), (216 : Int32), (246 : Int32), (247 : Int32), (248 : Int32), (767 : Int32), (880 : Int32), (893 : Int32), (894 : Int32), (895 : Int32), (8191 : Int32), (8204 : Int32), (8205 : Int32), (8304 : Int32), (8591 : Int32), (11264 : Int32), (12271 : Int32), (12289 : Int32), (55295 : Int32), (63744 : Int32), (64975 : Int32), (65008 : Int32), (65533 : Int32), (65536 : Int32), (0 : Int32)])) := OAr.setI (j := 31) (x := (65536 : Int32)) W33 A32 (by decide)
  have N33 := Fr.snoc X33 N32 g1
  have z33 : n0 ≤ h33.size := Nat.le_trans z32 (Keep.of_wr W33).1
  refine o_dup X33 hx (hb hby at_209) rfl (pc' := 210) rfl ?_
  refine o_bipush X33 hx (hb hby at_210) (32 : Int32) rfl (pc' := 212) rfl ?_
  refine o_ldcInt X33 hx hZ hown (hb hby at_212) (hw _ (List.mem_of_getElem? (i := 7) rfl)) (pc' := 214) rfl ?_
  refine o_iastore X33 hx hZ e33 A33 (hb hby at_214) (by decide) (by decide) (pc' := 215) rfl ?_
  intro T34 h34 X34 e34 W34
  have A34 : OAr Z h34 a1 .int 33 (ci (li [(0 : Int32), (65 : Int32), (90 : Int32), (95 : Int32), (97 : Int32), (122 : Int32), (192 : Int32), (214 : Int32), (215 : Int32), (216 : Int32), (246 : Int32), (247 : Int32), (248 : Int32), (767 : Int32), (880 : Int32), (893 : Int32), (894 : Int32), (895 : Int32), (8191 : Int32), (8204 : Int32), (8205 : Int32), (8304 : Int32), (8591 : Int32), (11264 : Int32), (12271 : Int32), (12289 : Int32), (55295 : Int32), (63744 : Int32), (64975 : Int32), (65008 : Int32), (65533 : Int32), (65536 : Int32), (983039 : Int32)])) := OAr.setI (j := 32) (x := (983039 : Int32)) W34 A33 (by decide)
  have N34 := Fr.snoc X34 N33 g1
  have z34 : n0 ≤ h34.size := Nat.le_trans z33 (Keep.of_wr W34).1
  refine o_astore_n X34 hx (hb hby at_215) rfl #[.val (.int x0), .val (.int x1), .val (.int x2), .val (.ref a1), .unset] rfl (pc' := 216) rfl ?_
  refine o_iload_n X34 hx (hb hby at_216) rfl (pc' := 217) rfl ?_
  refine o_iconst X34 hx (hb hby at_217) (1 : Int32) rfl (pc' := 218) rfl ?_
  refine o_iand X34 hx (hb hby at_218) (pc' := 219) rfl ?_
  by_cases hc35 : (x1 &&& (1 : Int32)) = (0 : Int32)
  · rw [if_pos hc35] at hr
    refine o_ifNo X34 hx (hb hby at_219) (z_teq hc35).2 (pc' := 222) rfl ?_
    refine o_iload_n X34 hx (hb hby at_222) rfl (pc' := 223) rfl ?_
    refine o_istore X34 hx (hb hby at_223) #[.val (.int x0), .val (.int x1), .val (.int x2), .val (.ref a1), .val (.int x0)] rfl (pc' := 225) rfl ?_
    refine o_goto X34 hx (hb hby at_225) (pc' := 242) (by decide) (by decide) ?_
    exact b0_242 hx hZ hw hby hml hown hnm hret hlk x0 x1 x2 a1 x0 r X34 e34 N34 z34 hr
  · rw [if_neg hc35] at hr
    refine o_ifYes X34 hx (hb hby at_219) (z_feq hc35).2 (pc' := 228) (by decide) (by decide) ?_
    refine o_aload_n X34 hx (hb hby at_228) rfl rfl (pc' := 229) rfl ?_
    refine o_iload_n X34 hx (hb hby at_229) rfl (pc' := 230) rfl ?_
    refine o_iconst X34 hx (hb hby at_230) (1 : Int32) rfl (pc' := 231) rfl ?_
    refine o_iushr X34 hx (hb hby at_231) (pc' := 232) rfl ?_
    refine o_aload_n X34 hx (hb hby at_232) rfl rfl (pc' := 233) rfl ?_
    refine o_alen X34 hx hZ e34 A34 (hb hby at_233) (33 : Int32) rfl (pc' := 234) rfl ?_
    refine o_irem X34 hx (hb hby at_234) (by decide) (pc' := 235) rfl ?_
    by_cases hg40 : (¬ ((((x1.toUInt32 >>> ((1 : Int32) &&& 31).toUInt32).toInt32) % (33 : Int32)) < 0) ∧ Int32.toNatClampNeg (((x1.toUInt32 >>> ((1 : Int32) &&& 31).toUInt32).toInt32) % (33 : Int32)) < 33)
    case neg => rw [if_neg hg40] at hr; cases hr
    rw [if_pos hg40] at hr
    refine o_iaload X34 hx hZ e34 A34 (hb hby at_235) (And.left hg40) (And.right hg40) ((li [(0 : Int32), (65 : Int32), (90 : Int32), (95 : Int32), (97 : Int32), (122 : Int32), (192 : Int32), (214 : Int32), (215 : Int32), (216 : Int32), (246 : Int32), (247 : Int32), (248 : Int32), (767 : Int32), (880 : Int32), (893 : Int32), (894 : Int32), (895 : Int32), (8191 : Int32), (8204 : Int32), (8205 : Int32), (8304 : Int32), (8591 : Int32), (11264 : Int32), (12271 : Int32), (12289 : Int32), (55295 : Int32), (63744 : Int32), (64975 : Int32), (65008 : Int32), (65533 : Int32), (65536 : Int32), (983039 : Int32)]) (Int32.toNatClampNeg (((x1.toUInt32 >>> ((1 : Int32) &&& 31).toUInt32).toInt32) % (33 : Int32)))) rfl (pc' := 236) rfl ?_
    refine o_iload_n X34 hx (hb hby at_236) rfl (pc' := 237) rfl ?_
    refine o_iconst X34 hx (hb hby at_237) (3 : Int32) rfl (pc' := 238) rfl ?_
    refine o_irem X34 hx (hb hby at_238) (by decide) (pc' := 239) rfl ?_
    refine o_iadd X34 hx (hb hby at_239) (pc' := 240) rfl ?_
    refine o_istore X34 hx (hb hby at_240) #[.val (.int x0), .val (.int x1), .val (.int x2), .val (.ref a1), .val (.int (((li [(0 : Int32), (65 : Int32), (90 : Int32), (95 : Int32), (97 : Int32), (122 : Int32), (192 : Int32), (214 : Int32), (215 : Int32), (216 : Int32), (246 : Int32), (247 : Int32), (248 : Int32), (767 : Int32), (880 : Int32), (893 : Int32), (894 : Int32), (895 : Int32), (8191 : Int32), (8204 : Int32), (8205 : Int32), (8304 : Int32), (8591 : Int32), (11264 : Int32), (12271 : Int32), (12289 : Int32), (55295 : Int32), (63744 : Int32), (64975 : Int32), (65008 : Int32), (65533 : Int32), (65536 : Int32), (983039 : Int32)]) (Int32.toNatClampNeg (((x1.toUInt32 >>> ((1 : Int32) &&& 31).toUInt32).toInt32) % (33 : Int32)))) + (x2 % (3 : Int32))))] rfl (pc' := 242) rfl ?_
    exact b0_242 hx hZ hw hby hml hown hnm hret hlk x0 x1 x2 a1 (((li [(0 : Int32), (65 : Int32), (90 : Int32), (95 : Int32), (97 : Int32), (122 : Int32), (192 : Int32), (214 : Int32), (215 : Int32), (216 : Int32), (246 : Int32), (247 : Int32), (248 : Int32), (767 : Int32), (880 : Int32), (893 : Int32), (894 : Int32), (895 : Int32), (8191 : Int32), (8204 : Int32), (8205 : Int32), (8304 : Int32), (8591 : Int32), (11264 : Int32), (12271 : Int32), (12289 : Int32), (55295 : Int32), (63744 : Int32), (64975 : Int32), (65008 : Int32), (65533 : Int32), (65536 : Int32), (983039 : Int32)]) (Int32.toNatClampNeg (((x1.toUInt32 >>> ((1 : Int32) &&& 31).toUInt32).toInt32) % (33 : Int32)))) + (x2 % (3 : Int32))) r X34 e34 N34 z34 hr
theorem own_e (x y : Int32) : x = y ↔ x.toInt = y.toInt := by rw [Int32.toInt_inj]
theorem k0 : (0 : Int32).toInt = 0 := rfl
theorem k1 : (1 : Int32).toInt = 1 := rfl
theorem k65 : (65 : Int32).toInt = 65 := rfl
theorem k90 : (90 : Int32).toInt = 90 := rfl
theorem k95 : (95 : Int32).toInt = 95 := rfl
theorem k97 : (97 : Int32).toInt = 97 := rfl
theorem k122 : (122 : Int32).toInt = 122 := rfl
theorem k192 : (192 : Int32).toInt = 192 := rfl
theorem k214 : (214 : Int32).toInt = 214 := rfl
theorem k215 : (215 : Int32).toInt = 215 := rfl
theorem k216 : (216 : Int32).toInt = 216 := rfl
theorem k246 : (246 : Int32).toInt = 246 := rfl
theorem k247 : (247 : Int32).toInt = 247 := rfl
theorem k248 : (248 : Int32).toInt = 248 := rfl
theorem k767 : (767 : Int32).toInt = 767 := rfl
theorem k880 : (880 : Int32).toInt = 880 := rfl
theorem k893 : (893 : Int32).toInt = 893 := rfl
theorem k894 : (894 : Int32).toInt = 894 := rfl
theorem k895 : (895 : Int32).toInt = 895 := rfl
theorem k8191 : (8191 : Int32).toInt = 8191 := rfl
theorem k8204 : (8204 : Int32).toInt = 8204 := rfl
theorem k8205 : (8205 : Int32).toInt = 8205 := rfl
theorem k8304 : (8304 : Int32).toInt = 8304 := rfl
theorem k8591 : (8591 : Int32).toInt = 8591 := rfl
theorem k11264 : (11264 : Int32).toInt = 11264 := rfl
theorem k12271 : (12271 : Int32).toInt = 12271 := rfl
theorem k12289 : (12289 : Int32).toInt = 12289 := rfl
theorem k55295 : (55295 : Int32).toInt = 55295 := rfl
theorem k63744 : (63744 : Int32).toInt = 63744 := rfl
theorem k64975 : (64975 : Int32).toInt = 64975 := rfl
theorem k65008 : (65008 : Int32).toInt = 65008 := rfl
theorem k65533 : (65533 : Int32).toInt = 65533 := rfl
theorem k65536 : (65536 : Int32).toInt = 65536 := rfl
theorem k983039 : (983039 : Int32).toInt = 983039 := rfl
theorem ef1_179 (x : Int32) : f1_179 x = if ((65536 ≤ x.toInt ∧ x.toInt ≤ 983039)) then 1 else 0 := by
  have := x.toInt_lt; have := x.le_toInt
  unfold f1_179
  simp only [own_e, Int32.lt_iff_toInt_lt, k65536, k983039]
  repeat' split
  all_goals first | rfl | (exfalso; omega)
theorem ef1_167 (x : Int32) : f1_167 x = if ((65008 ≤ x.toInt ∧ x.toInt ≤ 65533) ∨ (65536 ≤ x.toInt ∧ x.toInt ≤ 983039)) then 1 else 0 := by
  have := x.toInt_lt; have := x.le_toInt
  unfold f1_167
  simp only [ef1_179, own_e, Int32.lt_iff_toInt_lt, k65008, k65533]
  repeat' split
  all_goals first | rfl | (exfalso; omega)
theorem ef1_155 (x : Int32) : f1_155 x = if ((63744 ≤ x.toInt ∧ x.toInt ≤ 64975) ∨ (65008 ≤ x.toInt ∧ x.toInt ≤ 65533) ∨ (65536 ≤ x.toInt ∧ x.toInt ≤ 983039)) then 1 else 0 := by
  have := x.toInt_lt; have := x.le_toInt
  unfold f1_155
  simp only [ef1_167, own_e, Int32.lt_iff_toInt_lt, k63744, k64975]
  repeat' split
  all_goals first | rfl | (exfalso; omega)
theorem ef1_142 (x : Int32) : f1_142 x = if ((12289 ≤ x.toInt ∧ x.toInt ≤ 55295) ∨ (63744 ≤ x.toInt ∧ x.toInt ≤ 64975) ∨ (65008 ≤ x.toInt ∧ x.toInt ≤ 65533) ∨ (65536 ≤ x.toInt ∧ x.toInt ≤ 983039)) then 1 else 0 := by
  have := x.toInt_lt; have := x.le_toInt
  unfold f1_142
  simp only [ef1_155, own_e, Int32.lt_iff_toInt_lt, k12289, k55295]
  repeat' split
  all_goals first | rfl | (exfalso; omega)
theorem ef1_128 (x : Int32) : f1_128 x = if ((11264 ≤ x.toInt ∧ x.toInt ≤ 12271) ∨ (12289 ≤ x.toInt ∧ x.toInt ≤ 55295) ∨ (63744 ≤ x.toInt ∧ x.toInt ≤ 64975) ∨ (65008 ≤ x.toInt ∧ x.toInt ≤ 65533) ∨ (65536 ≤ x.toInt ∧ x.toInt ≤ 983039)) then 1 else 0 := by
  have := x.toInt_lt; have := x.le_toInt
  unfold f1_128
  simp only [ef1_142, own_e, Int32.lt_iff_toInt_lt, k11264, k12271]
  repeat' split
  all_goals first | rfl | (exfalso; omega)
theorem ef1_114 (x : Int32) : f1_114 x = if ((8304 ≤ x.toInt ∧ x.toInt ≤ 8591) ∨ (11264 ≤ x.toInt ∧ x.toInt ≤ 12271) ∨ (12289 ≤ x.toInt ∧ x.toInt ≤ 55295) ∨ (63744 ≤ x.toInt ∧ x.toInt ≤ 64975) ∨ (65008 ≤ x.toInt ∧ x.toInt ≤ 65533) ∨ (65536 ≤ x.toInt ∧ x.toInt ≤ 983039)) then 1 else 0 := by
  have := x.toInt_lt; have := x.le_toInt
  unfold f1_114
  simp only [ef1_128, own_e, Int32.lt_iff_toInt_lt, k8304, k8591]
  repeat' split
  all_goals first | rfl | (exfalso; omega)
theorem ef1_100 (x : Int32) : f1_100 x = if ((8204 ≤ x.toInt ∧ x.toInt ≤ 8205) ∨ (8304 ≤ x.toInt ∧ x.toInt ≤ 8591) ∨ (11264 ≤ x.toInt ∧ x.toInt ≤ 12271) ∨ (12289 ≤ x.toInt ∧ x.toInt ≤ 55295) ∨ (63744 ≤ x.toInt ∧ x.toInt ≤ 64975) ∨ (65008 ≤ x.toInt ∧ x.toInt ≤ 65533) ∨ (65536 ≤ x.toInt ∧ x.toInt ≤ 983039)) then 1 else 0 := by
  have := x.toInt_lt; have := x.le_toInt
  unfold f1_100
  simp only [ef1_114, own_e, Int32.lt_iff_toInt_lt, k8204, k8205]
  repeat' split
  all_goals first | rfl | (exfalso; omega)
theorem ef1_86 (x : Int32) : f1_86 x = if ((895 ≤ x.toInt ∧ x.toInt ≤ 8191) ∨ (8204 ≤ x.toInt ∧ x.toInt ≤ 8205) ∨ (8304 ≤ x.toInt ∧ x.toInt ≤ 8591) ∨ (11264 ≤ x.toInt ∧ x.toInt ≤ 12271) ∨ (12289 ≤ x.toInt ∧ x.toInt ≤ 55295) ∨ (63744 ≤ x.toInt ∧ x.toInt ≤ 64975) ∨ (65008 ≤ x.toInt ∧ x.toInt ≤ 65533) ∨ (65536 ≤ x.toInt ∧ x.toInt ≤ 983039)) then 1 else 0 := by
  have := x.toInt_lt; have := x.le_toInt
  unfold f1_86
  simp only [ef1_100, own_e, Int32.lt_iff_toInt_lt, k895, k8191]
  repeat' split
  all_goals first | rfl | (exfalso; omega)
theorem ef1_72 (x : Int32) : f1_72 x = if ((880 ≤ x.toInt ∧ x.toInt ≤ 893) ∨ (895 ≤ x.toInt ∧ x.toInt ≤ 8191) ∨ (8204 ≤ x.toInt ∧ x.toInt ≤ 8205) ∨ (8304 ≤ x.toInt ∧ x.toInt ≤ 8591) ∨ (11264 ≤ x.toInt ∧ x.toInt ≤ 12271) ∨ (12289 ≤ x.toInt ∧ x.toInt ≤ 55295) ∨ (63744 ≤ x.toInt ∧ x.toInt ≤ 64975) ∨ (65008 ≤ x.toInt ∧ x.toInt ≤ 65533) ∨ (65536 ≤ x.toInt ∧ x.toInt ≤ 983039)) then 1 else 0 := by
  have := x.toInt_lt; have := x.le_toInt
  unfold f1_72
  simp only [ef1_86, own_e, Int32.lt_iff_toInt_lt, k880, k893]
  repeat' split
  all_goals first | rfl | (exfalso; omega)
theorem ef1_58 (x : Int32) : f1_58 x = if ((248 ≤ x.toInt ∧ x.toInt ≤ 767) ∨ (880 ≤ x.toInt ∧ x.toInt ≤ 893) ∨ (895 ≤ x.toInt ∧ x.toInt ≤ 8191) ∨ (8204 ≤ x.toInt ∧ x.toInt ≤ 8205) ∨ (8304 ≤ x.toInt ∧ x.toInt ≤ 8591) ∨ (11264 ≤ x.toInt ∧ x.toInt ≤ 12271) ∨ (12289 ≤ x.toInt ∧ x.toInt ≤ 55295) ∨ (63744 ≤ x.toInt ∧ x.toInt ≤ 64975) ∨ (65008 ≤ x.toInt ∧ x.toInt ≤ 65533) ∨ (65536 ≤ x.toInt ∧ x.toInt ≤ 983039)) then 1 else 0 := by
  have := x.toInt_lt; have := x.le_toInt
  unfold f1_58
  simp only [ef1_72, own_e, Int32.lt_iff_toInt_lt, k248, k767]
  repeat' split
  all_goals first | rfl | (exfalso; omega)
theorem ef1_44 (x : Int32) : f1_44 x = if ((216 ≤ x.toInt ∧ x.toInt ≤ 246) ∨ (248 ≤ x.toInt ∧ x.toInt ≤ 767) ∨ (880 ≤ x.toInt ∧ x.toInt ≤ 893) ∨ (895 ≤ x.toInt ∧ x.toInt ≤ 8191) ∨ (8204 ≤ x.toInt ∧ x.toInt ≤ 8205) ∨ (8304 ≤ x.toInt ∧ x.toInt ≤ 8591) ∨ (11264 ≤ x.toInt ∧ x.toInt ≤ 12271) ∨ (12289 ≤ x.toInt ∧ x.toInt ≤ 55295) ∨ (63744 ≤ x.toInt ∧ x.toInt ≤ 64975) ∨ (65008 ≤ x.toInt ∧ x.toInt ≤ 65533) ∨ (65536 ≤ x.toInt ∧ x.toInt ≤ 983039)) then 1 else 0 := by
  have := x.toInt_lt; have := x.le_toInt
  unfold f1_44
  simp only [ef1_58, own_e, Int32.lt_iff_toInt_lt, k216, k246]
  repeat' split
  all_goals first | rfl | (exfalso; omega)
theorem ef1_24 (x : Int32) : f1_24 x = if ((95 ≤ x.toInt ∧ x.toInt ≤ 95) ∨ (192 ≤ x.toInt ∧ x.toInt ≤ 214) ∨ (216 ≤ x.toInt ∧ x.toInt ≤ 246) ∨ (248 ≤ x.toInt ∧ x.toInt ≤ 767) ∨ (880 ≤ x.toInt ∧ x.toInt ≤ 893) ∨ (895 ≤ x.toInt ∧ x.toInt ≤ 8191) ∨ (8204 ≤ x.toInt ∧ x.toInt ≤ 8205) ∨ (8304 ≤ x.toInt ∧ x.toInt ≤ 8591) ∨ (11264 ≤ x.toInt ∧ x.toInt ≤ 12271) ∨ (12289 ≤ x.toInt ∧ x.toInt ≤ 55295) ∨ (63744 ≤ x.toInt ∧ x.toInt ≤ 64975) ∨ (65008 ≤ x.toInt ∧ x.toInt ≤ 65533) ∨ (65536 ≤ x.toInt ∧ x.toInt ≤ 983039)) then 1 else 0 := by
  have := x.toInt_lt; have := x.le_toInt
  unfold f1_24
  simp only [ef1_44, own_e, Int32.lt_iff_toInt_lt, k95, k192, k214]
  repeat' split
  all_goals first | rfl | (exfalso; omega)
theorem ef1_12 (x : Int32) : f1_12 x = if ((65 ≤ x.toInt ∧ x.toInt ≤ 90) ∨ (95 ≤ x.toInt ∧ x.toInt ≤ 95) ∨ (192 ≤ x.toInt ∧ x.toInt ≤ 214) ∨ (216 ≤ x.toInt ∧ x.toInt ≤ 246) ∨ (248 ≤ x.toInt ∧ x.toInt ≤ 767) ∨ (880 ≤ x.toInt ∧ x.toInt ≤ 893) ∨ (895 ≤ x.toInt ∧ x.toInt ≤ 8191) ∨ (8204 ≤ x.toInt ∧ x.toInt ≤ 8205) ∨ (8304 ≤ x.toInt ∧ x.toInt ≤ 8591) ∨ (11264 ≤ x.toInt ∧ x.toInt ≤ 12271) ∨ (12289 ≤ x.toInt ∧ x.toInt ≤ 55295) ∨ (63744 ≤ x.toInt ∧ x.toInt ≤ 64975) ∨ (65008 ≤ x.toInt ∧ x.toInt ≤ 65533) ∨ (65536 ≤ x.toInt ∧ x.toInt ≤ 983039)) then 1 else 0 := by
  have := x.toInt_lt; have := x.le_toInt
  unfold f1_12
  simp only [ef1_24, own_e, Int32.lt_iff_toInt_lt, k65, k90]
  repeat' split
  all_goals first | rfl | (exfalso; omega)
theorem ef1_0 (x : Int32) : f1_0 x = if ((65 ≤ x.toInt ∧ x.toInt ≤ 90) ∨ (95 ≤ x.toInt ∧ x.toInt ≤ 95) ∨ (97 ≤ x.toInt ∧ x.toInt ≤ 122) ∨ (192 ≤ x.toInt ∧ x.toInt ≤ 214) ∨ (216 ≤ x.toInt ∧ x.toInt ≤ 246) ∨ (248 ≤ x.toInt ∧ x.toInt ≤ 767) ∨ (880 ≤ x.toInt ∧ x.toInt ≤ 893) ∨ (895 ≤ x.toInt ∧ x.toInt ≤ 8191) ∨ (8204 ≤ x.toInt ∧ x.toInt ≤ 8205) ∨ (8304 ≤ x.toInt ∧ x.toInt ≤ 8591) ∨ (11264 ≤ x.toInt ∧ x.toInt ≤ 12271) ∨ (12289 ≤ x.toInt ∧ x.toInt ≤ 55295) ∨ (63744 ≤ x.toInt ∧ x.toInt ≤ 64975) ∨ (65008 ≤ x.toInt ∧ x.toInt ≤ 65533) ∨ (65536 ≤ x.toInt ∧ x.toInt ≤ 983039)) then 1 else 0 := by
  have := x.toInt_lt; have := x.le_toInt
  unfold f1_0
  simp only [ef1_12, own_e, Int32.lt_iff_toInt_lt, k97, k122]
  repeat' split
  all_goals first | rfl | (exfalso; omega)
theorem ef2_164 (x : Int32) : f2_164 x = if ((983040 ≤ x.toInt ∧ x.toInt ≤ 2147483647)) then 1 else 0 := by
  have := x.toInt_lt; have := x.le_toInt
  unfold f2_164
  simp only [own_e, Int32.lt_iff_toInt_lt, k983039]
  repeat' split
  all_goals first | rfl | (exfalso; omega)
theorem ef2_152 (x : Int32) : f2_152 x = if ((65534 ≤ x.toInt ∧ x.toInt ≤ 65535) ∨ (983040 ≤ x.toInt ∧ x.toInt ≤ 2147483647)) then 1 else 0 := by
  have := x.toInt_lt; have := x.le_toInt
  unfold f2_152
  simp only [ef2_164, own_e, Int32.lt_iff_toInt_lt, k65533, k65536]
  repeat' split
  all_goals first | rfl | (exfalso; omega)
theorem ef2_140 (x : Int32) : f2_140 x = if ((64976 ≤ x.toInt ∧ x.toInt ≤ 65007) ∨ (65534 ≤ x.toInt ∧ x.toInt ≤ 65535) ∨ (983040 ≤ x.toInt ∧ x.toInt ≤ 2147483647)) then 1 else 0 := by
  have := x.toInt_lt; have := x.le_toInt
  unfold f2_140
  simp only [ef2_152, own_e, Int32.lt_iff_toInt_lt, k64975, k65008]
  repeat' split
  all_goals first | rfl | (exfalso; omega)
theorem ef2_128 (x : Int32) : f2_128 x = if ((55296 ≤ x.toInt ∧ x.toInt ≤ 63743) ∨ (64976 ≤ x.toInt ∧ x.toInt ≤ 65007) ∨ (65534 ≤ x.toInt ∧ x.toInt ≤ 65535) ∨ (983040 ≤ x.toInt ∧ x.toInt ≤ 2147483647)) then 1 else 0 := by
  have := x.toInt_lt; have := x.le_toInt
  unfold f2_128
  simp only [ef2_140, own_e, Int32.lt_iff_toInt_lt, k55295, k63744]
  repeat' split
  all_goals first | rfl | (exfalso; omega)
theorem ef2_114 (x : Int32) : f2_114 x = if ((12272 ≤ x.toInt ∧ x.toInt ≤ 12288) ∨ (55296 ≤ x.toInt ∧ x.toInt ≤ 63743) ∨ (64976 ≤ x.toInt ∧ x.toInt ≤ 65007) ∨ (65534 ≤ x.toInt ∧ x.toInt ≤ 65535) ∨ (983040 ≤ x.toInt ∧ x.toInt ≤ 2147483647)) then 1 else 0 := by
  have := x.toInt_lt; have := x.le_toInt
  unfold f2_114
  simp only [ef2_128, own_e, Int32.lt_iff_toInt_lt, k12271, k12289]
  repeat' split
  all_goals first | rfl | (exfalso; omega)
theorem ef2_100 (x : Int32) : f2_100 x = if ((8592 ≤ x.toInt ∧ x.toInt ≤ 11263) ∨ (12272 ≤ x.toInt ∧ x.toInt ≤ 12288) ∨ (55296 ≤ x.toInt ∧ x.toInt ≤ 63743) ∨ (64976 ≤ x.toInt ∧ x.toInt ≤ 65007) ∨ (65534 ≤ x.toInt ∧ x.toInt ≤ 65535) ∨ (983040 ≤ x.toInt ∧ x.toInt ≤ 2147483647)) then 1 else 0 := by
  have := x.toInt_lt; have := x.le_toInt
  unfold f2_100
  simp only [ef2_114, own_e, Int32.lt_iff_toInt_lt, k8591, k11264]
  repeat' split
  all_goals first | rfl | (exfalso; omega)
theorem ef2_86 (x : Int32) : f2_86 x = if ((8206 ≤ x.toInt ∧ x.toInt ≤ 8303) ∨ (8592 ≤ x.toInt ∧ x.toInt ≤ 11263) ∨ (12272 ≤ x.toInt ∧ x.toInt ≤ 12288) ∨ (55296 ≤ x.toInt ∧ x.toInt ≤ 63743) ∨ (64976 ≤ x.toInt ∧ x.toInt ≤ 65007) ∨ (65534 ≤ x.toInt ∧ x.toInt ≤ 65535) ∨ (983040 ≤ x.toInt ∧ x.toInt ≤ 2147483647)) then 1 else 0 := by
  have := x.toInt_lt; have := x.le_toInt
  unfold f2_86
  simp only [ef2_100, own_e, Int32.lt_iff_toInt_lt, k8205, k8304]
  repeat' split
  all_goals first | rfl | (exfalso; omega)
theorem ef2_65 (x : Int32) : f2_65 x = if ((894 ≤ x.toInt ∧ x.toInt ≤ 894) ∨ (8192 ≤ x.toInt ∧ x.toInt ≤ 8203) ∨ (8206 ≤ x.toInt ∧ x.toInt ≤ 8303) ∨ (8592 ≤ x.toInt ∧ x.toInt ≤ 11263) ∨ (12272 ≤ x.toInt ∧ x.toInt ≤ 12288) ∨ (55296 ≤ x.toInt ∧ x.toInt ≤ 63743) ∨ (64976 ≤ x.toInt ∧ x.toInt ≤ 65007) ∨ (65534 ≤ x.toInt ∧ x.toInt ≤ 65535) ∨ (983040 ≤ x.toInt ∧ x.toInt ≤ 2147483647)) then 1 else 0 := by
  have := x.toInt_lt; have := x.le_toInt
  unfold f2_65
  simp only [ef2_86, own_e, Int32.lt_iff_toInt_lt, k894, k8191, k8204]
  repeat' split
  all_goals first | rfl | (exfalso; omega)
theorem ef2_37 (x : Int32) : f2_37 x = if ((215 ≤ x.toInt ∧ x.toInt ≤ 215) ∨ (247 ≤ x.toInt ∧ x.toInt ≤ 247) ∨ (768 ≤ x.toInt ∧ x.toInt ≤ 879) ∨ (894 ≤ x.toInt ∧ x.toInt ≤ 894) ∨ (8192 ≤ x.toInt ∧ x.toInt ≤ 8203) ∨ (8206 ≤ x.toInt ∧ x.toInt ≤ 8303) ∨ (8592 ≤ x.toInt ∧ x.toInt ≤ 11263) ∨ (12272 ≤ x.toInt ∧ x.toInt ≤ 12288) ∨ (55296 ≤ x.toInt ∧ x.toInt ≤ 63743) ∨ (64976 ≤ x.toInt ∧ x.toInt ≤ 65007) ∨ (65534 ≤ x.toInt ∧ x.toInt ≤ 65535) ∨ (983040 ≤ x.toInt ∧ x.toInt ≤ 2147483647)) then 1 else 0 := by
  have := x.toInt_lt; have := x.le_toInt
  unfold f2_37
  simp only [ef2_65, own_e, Int32.lt_iff_toInt_lt, k215, k247, k767, k880]
  repeat' split
  all_goals first | rfl | (exfalso; omega)
theorem ef2_24 (x : Int32) : f2_24 x = if ((123 ≤ x.toInt ∧ x.toInt ≤ 191) ∨ (215 ≤ x.toInt ∧ x.toInt ≤ 215) ∨ (247 ≤ x.toInt ∧ x.toInt ≤ 247) ∨ (768 ≤ x.toInt ∧ x.toInt ≤ 879) ∨ (894 ≤ x.toInt ∧ x.toInt ≤ 894) ∨ (8192 ≤ x.toInt ∧ x.toInt ≤ 8203) ∨ (8206 ≤ x.toInt ∧ x.toInt ≤ 8303) ∨ (8592 ≤ x.toInt ∧ x.toInt ≤ 11263) ∨ (12272 ≤ x.toInt ∧ x.toInt ≤ 12288) ∨ (55296 ≤ x.toInt ∧ x.toInt ≤ 63743) ∨ (64976 ≤ x.toInt ∧ x.toInt ≤ 65007) ∨ (65534 ≤ x.toInt ∧ x.toInt ≤ 65535) ∨ (983040 ≤ x.toInt ∧ x.toInt ≤ 2147483647)) then 1 else 0 := by
  have := x.toInt_lt; have := x.le_toInt
  unfold f2_24
  simp only [ef2_37, own_e, Int32.lt_iff_toInt_lt, k122, k192]
  repeat' split
  all_goals first | rfl | (exfalso; omega)
theorem ef2_0 (x : Int32) : f2_0 x = if ((-2147483648 ≤ x.toInt ∧ x.toInt ≤ 64) ∨ (91 ≤ x.toInt ∧ x.toInt ≤ 94) ∨ (96 ≤ x.toInt ∧ x.toInt ≤ 96) ∨ (123 ≤ x.toInt ∧ x.toInt ≤ 191) ∨ (215 ≤ x.toInt ∧ x.toInt ≤ 215) ∨ (247 ≤ x.toInt ∧ x.toInt ≤ 247) ∨ (768 ≤ x.toInt ∧ x.toInt ≤ 879) ∨ (894 ≤ x.toInt ∧ x.toInt ≤ 894) ∨ (8192 ≤ x.toInt ∧ x.toInt ≤ 8203) ∨ (8206 ≤ x.toInt ∧ x.toInt ≤ 8303) ∨ (8592 ≤ x.toInt ∧ x.toInt ≤ 11263) ∨ (12272 ≤ x.toInt ∧ x.toInt ≤ 12288) ∨ (55296 ≤ x.toInt ∧ x.toInt ≤ 63743) ∨ (64976 ≤ x.toInt ∧ x.toInt ≤ 65007) ∨ (65534 ≤ x.toInt ∧ x.toInt ≤ 65535) ∨ (983040 ≤ x.toInt ∧ x.toInt ≤ 2147483647)) then 1 else 0 := by
  have := x.toInt_lt; have := x.le_toInt
  unfold f2_0
  simp only [ef2_24, own_e, Int32.lt_iff_toInt_lt, k65, k90, k95, k97]
  repeat' split
  all_goals first | rfl | (exfalso; omega)
theorem own_242 (x : Int32) : f0_242 x = some 1 := by
  have := x.toInt_lt; have := x.le_toInt
  unfold f0_242 f0_260
  rw [ef1_0, ef2_0]
  repeat' split
  all_goals first | rfl | (exfalso; omega) | (exfalso; rename_i h1 h2; exact absurd h1 (by decide)) | (exfalso; rename_i h1 h2; exact absurd h2 (by decide)) | (exfalso; rename_i h1 h2 h3; first | exact absurd h1 (by decide) | exact absurd h2 (by decide) | exact absurd h3 (by decide))
theorem own_idx (x : Int32) : ¬ ((((x.toUInt32 >>> ((1 : Int32) &&& 31).toUInt32).toInt32) % (33 : Int32)) < 0) ∧ Int32.toNatClampNeg (((x.toUInt32 >>> ((1 : Int32) &&& 31).toUInt32).toInt32) % (33 : Int32)) < 33 := by
  have e : ((x.toUInt32 >>> ((1 : Int32) &&& 31).toUInt32).toInt32).toBitVec.toNat = x.toBitVec.toNat / 2 := by
    show (x.toUInt32 >>> (1 : UInt32)).toNat = _
    rw [UInt32.toNat_shiftRight]
    show x.toBitVec.toNat >>> 1 = _
    rw [Nat.shiftRight_eq_div_pow]
  have := x.toBitVec.isLt
  have n : 0 ≤ ((x.toUInt32 >>> ((1 : Int32) &&& 31).toUInt32).toInt32).toInt := by
    rw [← Int32.toInt_toBitVec, BitVec.toInt_eq_toNat_cond, if_pos (by omega)]; omega
  generalize ((x.toUInt32 >>> ((1 : Int32) &&& 31).toUInt32).toInt32) = y at *
  have m : (y % 33).toInt = y.toInt % 33 := by rw [Int32.toInt_mod, show (33 : Int32).toInt = 33 from rfl, Int.tmod_eq_emod_of_nonneg n]
  rw [Int32.lt_iff_toInt_lt, show (0 : Int32).toInt = 0 from rfl]
  show _ ∧ (y % 33).toInt.toNat < 33
  omega
theorem law_true (x0 x1 x2 : Int32) : f0_0 x0 x1 x2 = some 1 := by
  unfold f0_0
  rw [own_242, own_242, if_pos (own_idx x1)]
  simp

theorem pn_0 : plainName "com/example/libtreegram/libtreegram/model/XmlNamesIsNcNameStartCharPinLaw" = true := by first | (simp [plainName, overriddenIn]; done) | decide +kernel
theorem ef_0 (m : MethodId) (x0 : Int32) (x1 : Int32) (x2 : Int32) : entryFrame m #[(.int x0), (.int x1), (.int x2)] maxLocals = (mkF m 0 #[.val (.int x0), .val (.int x1), .val (.int x2), .unset, .unset] []) := by first | (simp [entryFrame, mkF, argsToLocals, Value.category, maxLocals]; done) | rfl
def Qd0 (Z : State) (h0 : Heap) (n0 : Nat) (x0 : Int32) (x1 : Int32) (x2 : Int32) : Option Value → Heap → List Loc → Prop := (fun v h L => v = (some (.int (1 : Int32))) ∧ Fr n0 L)
set_option maxRecDepth 65536 in
set_option maxHeartbeats 40000000 in
theorem rm0 (l : Launch) (Z : State) (a0 : Array Value) (hw : ∀ d ∈ tables_1, d.before a0 Z = true) (ws : List Jvm.Cond) (x0 : Int32) (x1 : Int32) (x2 : Int32) (h0 : Heap) (n0 : Nat) (Z0 : n0 ≤ h0.size) :
    MetFree l x (head1 (Jvm.Cond.code x code maxLocals ret :: ws) room_1) (fun a U => a = #[(.int x0), (.int x1), (.int x2)] ∧ Z.Warmed39 U.vm ∧ U.heap = h0) (fun _ _ _ _ _ => True) (fun _ U o U' => ∃ v L, o = .returned v ∧ (Qd0 Z h0 n0 x0 x1 x2) v U'.heap L ∧ FrameEnd U o U' L room_1.cells room_1.slots) := by
  refine MetFree.of_bodySF (plainFor_of_name pn_0) hisR ?_
  intro p e s m args below meth c s₁ Bd hml0 hP hK
  obtain ⟨rfl, hZ, hh⟩ := hP
  have e0 : s₁.heap = h0 := by rw [← hh, Bd.state]; rfl
  exact OG.cast (ef_0 m x0 x1 x2) (b0_0 Bd.exec hZ hw Bd.bytes hml0 (findClass_of_methodNamed Bd.named) (name_of_methodNamed Bd.named Bd.method).1 Bd.returns Bd.notSynchronized x0 x1 x2 (1 : Int32) (Stand.of_body Bd) e0 (Fr.nil n0) Z0 (law_true _ _ _))
set_option maxRecDepth 65536 in
set_option maxHeartbeats 40000000 in
theorem comes_1 {Post : Tables → Env → Array Value → State → Outcome → State → Prop} (hpost : ∀ tb e args s v u, (limb_1_1.after args s (.returned v) u = true ∧ limb_1_2.after args s (.returned v) u = true ∧ True) → FrameEnd s (.returned v) u (Jvm.fieldLocs frame_1_writes args s ++ Jvm.arrayLocs frame_1_arrays args s ++ Jvm.staticLocs frame_1_statics s) 16 192 → Post tb e args s (.returned v) u) :
    ArmFor flags0 classFile x code maxLocals ret World_1 tables_1 room_1 Calls_1 rest_1 Pre_1 Post := by
  intro l hfl _ _ p e ha hc hk s m args below hf hA hF happ hP
  obtain ⟨hcalls, hrest, hpre⟩ := hP
  obtain ⟨-, -, -, hnamed, -, -, -, hat⟩ := (Spec.applies_iff hf).mp happ
  obtain ⟨hg, hn⟩ := and_e (Cond.before_iff.mp (show (Jvm.Cond.and given_1 narrow_1).before args s = true from hpre))
  obtain ⟨g0, r0⟩ := and_e hg
  obtain ⟨g1, r1⟩ := and_e r0
  obtain ⟨g2, r2⟩ := and_e r1
  obtain ⟨w0, w1, w2, rfl⟩ : ∃ w0 w1 w2 : Value, args = #[w0, w1, w2] := by
    have hs : args.size = 3 := by simpa [Cond.value, given_1] using g0
    obtain ⟨L⟩ := args
    match L, hs with
    | [w0, w1, w2], _ => exact ⟨w0, w1, w2, rfl⟩
  have hw := fun d (hd : d ∈ tables_1) => atoms_spec (ws := Jvm.Cond.code x code maxLocals ret :: tables_1) hat d (List.mem_cons_of_mem _ hd)
  obtain ⟨i0, ei0⟩ := is_v g1
  obtain rfl : w0 = (.int i0) := Option.some.inj ei0
  obtain ⟨i1, ei1⟩ := is_v g2
  obtain rfl : w1 = (.int i1) := Option.some.inj ei1
  obtain ⟨i2, ei2⟩ := is_v r2
  obtain rfl : w2 = (.int i2) := Option.some.inj ei2
  obtain ⟨n, o, h1, h2, h3, _, L, rfl, ⟨rfl, N⟩, hq⟩ := rm0 l s _ hw tables_1 i0 i1 i2 s.heap s.heap.size (Nat.le_refl _) p e ha hc hk s m _ below hf ((Spec.applies_iff_loose hf).mp happ).1 ⟨rfl, State.Warmed39.refl s, rfl⟩ trivial
  exact ⟨n, _, h1, h2, h3, hpost _ _ _ _ _ _ ⟨Cond.after_iff.mpr rfl, Cond.after_iff.mpr (eq_i res_at (Term.int_eval (1)) rfl), trivial⟩ ⟨hq.1, hq.2.1, (hq.2.2.sift fun y hy => Or.inr (N y hy)).mono (by decide) (by decide)⟩⟩
theorem main_1_1 : Claimed_1_1 := comes_1 fun _ _ _ _ _ _ h hF => ⟨h.1, hF⟩
theorem main_1_2 : Claimed_1_2 := comes_1 fun _ _ _ _ _ _ h hF => ⟨h.2.1, hF⟩
end Jvm.Pilot.@@N@@
namespace Jvm.Pilot.@@N@@
open Jvm Jvm.ClassFile Sem Op Lib Jvm.Free Jvm.Stand Jvm.Pilot.@@N@@.Jvm.D
/-! MADE BY PROGRAM (witnessworld.py) out of the Statement's table words and the real class files: 9 classes; the members and pool entries that the words name. The judged class is class 1, her method 2. -/
namespace start1
open Jvm.ClassFile
def u (s : String) : CpInfo := .utf8 (stringToUtf16 s)
/-- a pool by its gaps: so many unusable entries, then the entry; so many at the end -/
def gap : Nat → List CpInfo → List CpInfo
  | 0, r => r
  | n + 1, r => .unusable :: gap n r
def poolList (es : List (Nat × CpInfo)) (last : Nat) : List CpInfo := es.foldr (fun e r => gap e.1 (e.2 :: r)) (gap last [])
def pool (es : List (Nat × CpInfo)) (last : Nat) : Array CpInfo := ⟨poolList es last⟩
def fileOf (pool : Array CpInfo) (this : Nat) (attrs : Array Attribute := #[]) (ms : Array MethodInfo := #[]) (fl : Nat := 33) (sup : Nat := 0) (ifs : Array Nat := #[]) (fds : Array FieldInfo := #[]) : ClassFile where
  minorVersion := 0
  majorVersion := 65
  constantPool := pool
  accessFlags := fl
  thisClass := this
  superClass := sup
  interfaces := ifs
  fields := fds
  methods := ms
  attributes := attrs
def plain (name : String) (sup : Option ClassId) : Class where
  name := name
  kind := .ordinary
  loader := none
  accessFlags := 33
  super := sup
  interfaces := #[]
  cf := none
  fields := #[]
  methods := #[]
  instanceTypes := #[]
  staticTypes := #[]
  resolved := #[]
  callSites := []
  init := .initialized
  statics := none
  mirror := none

def pool0 : Array CpInfo := pool [(5, u "<init>"), (0, u "()V"), (1, .class_ 10), (1, u "java/lang/Object")] 113

def k0m0 : Method := { name := "<init>", desc := "()V", sig := { parameters := [], returnType := none }, accessFlags := 1, code := none }
/-- java/lang/Object -/
def k0 : Class := { plain "java/lang/Object" none with
  accessFlags := 33
  interfaces := #[]
  cf := some (fileOf pool0 8 #[] #[{ accessFlags := 1, nameIndex := 5, descriptorIndex := 6, attributes := #[] }] 33 0 #[] #[])
  fields := #[]
  methods := #[k0m0]
  instanceTypes := #[]
  staticTypes := #[]
  resolved := Array.replicate 124 none
  statics := none }

def pool1 : Array CpInfo := pool [(2, .class_ 4), (1, u "java/lang/Object"), (0, u "<init>"), (0, u "()V"), (0, .integer 55295), (0, .integer 63744), (0, .integer 64975), (0, .integer 65008), (0, .integer 65533), (0, .integer 65536), (0, .integer 983039), (0, .methodref 15 16), (0, .class_ 17), (0, .nameAndType 18 19), (0, u "com/example/libtreegram/libtreegram/model/XmlNames"), (0, u "isNcNameStartChar"), (0, u "(I)Z"), (0, .methodref 21 22), (0, .class_ 23), (0, .nameAndType 24 19), (0, u "com/example/libtreegram/libtreegram/model/XmlNamesIsNcNameStartCharPinLaw"), (0, u "excluded"), (3, u "law"), (0, u "(III)Z")] 4

def k1m0 : Method := { name := "<init>", desc := "()V", sig := { parameters := [], returnType := none }, accessFlags := 2, code := none }
def k1c1 : Code := { maxStack := 2, maxLocals := 1, code := method_2_code, exceptionTable := #[], attributes := #[] }
def k1m1 : Method := { name := "excluded", desc := "(I)Z", sig := { parameters := [.int], returnType := some .boolean }, accessFlags := 10, code := some k1c1 }
def k1c2 : Code := { maxStack := 4, maxLocals := 5, code := code, exceptionTable := #[], attributes := #[] }
def k1m2 : Method := { name := "law", desc := "(III)Z", sig := { parameters := [.int, .int, .int], returnType := some .boolean }, accessFlags := 9, code := some k1c2 }
/-- com/example/libtreegram/libtreegram/model/XmlNamesIsNcNameStartCharPinLaw -/
def k1 : Class := { plain "com/example/libtreegram/libtreegram/model/XmlNamesIsNcNameStartCharPinLaw" (some 0) with
  accessFlags := 49
  interfaces := #[]
  cf := some (fileOf pool1 21 #[] #[{ accessFlags := 2, nameIndex := 5, descriptorIndex := 6, attributes := #[] }, { accessFlags := 10, nameIndex := 24, descriptorIndex := 19, attributes := #[] }, { accessFlags := 9, nameIndex := 28, descriptorIndex := 29, attributes := #[] }] 49 2 #[] #[])
  fields := #[]
  methods := #[k1m0, k1m1, k1m2]
  instanceTypes := #[]
  staticTypes := #[]
  resolved := Array.replicate 34 none
  statics := none }

def pool2 : Array CpInfo := pool [(2, .class_ 4), (1, u "java/lang/Object"), (0, u "<init>"), (0, u "()V"), (7, .class_ 16), (1, u "com/example/libtreegram/libtreegram/model/XmlNames"), (45, u "isNcNameStartChar"), (0, u "(I)Z"), (16, .integer 55295), (1, .integer 65533), (0, .integer 65536), (0, .integer 63744), (0, .integer 64975), (0, .integer 65008), (0, .integer 983039)] 27

def k2m0 : Method := { name := "<init>", desc := "()V", sig := { parameters := [], returnType := none }, accessFlags := 2, code := none }
def k2c1 : Code := { maxStack := 2, maxLocals := 1, code := prog_86_method_7_code, exceptionTable := #[], attributes := #[] }
def k2m1 : Method := { name := "isNcNameStartChar", desc := "(I)Z", sig := { parameters := [.int], returnType := some .boolean }, accessFlags := 9, code := some k2c1 }
/-- com/example/libtreegram/libtreegram/model/XmlNames -/
def k2 : Class := { plain "com/example/libtreegram/libtreegram/model/XmlNames" (some 0) with
  accessFlags := 33
  interfaces := #[]
  cf := some (fileOf pool2 14 #[] #[{ accessFlags := 2, nameIndex := 5, descriptorIndex := 6, attributes := #[] }, { accessFlags := 9, nameIndex := 62, descriptorIndex := 63, attributes := #[] }] 33 2 #[] #[])
  fields := #[]
  methods := #[k2m0, k2m1]
  instanceTypes := #[]
  staticTypes := #[]
  resolved := Array.replicate 115 none
  statics := none }

def pool3 : Array CpInfo := pool [(1, u "java/lang/Cloneable"), (0, .class_ 1), (0, u "java/lang/Object"), (0, .class_ 3)] 3

/-- java/lang/Cloneable -/
def k3 : Class := { plain "java/lang/Cloneable" (some 0) with
  accessFlags := 1537
  interfaces := #[]
  cf := some (fileOf pool3 2 #[] #[] 1537 4 #[] #[])
  fields := #[]
  methods := #[]
  instanceTypes := #[]
  staticTypes := #[]
  resolved := Array.replicate 8 none
  statics := none }

def pool4 : Array CpInfo := pool [(1, u "java/io/Serializable"), (0, .class_ 1), (0, u "java/lang/Object"), (0, .class_ 3)] 3

/-- java/io/Serializable -/
def k4 : Class := { plain "java/io/Serializable" (some 0) with
  accessFlags := 1537
  interfaces := #[]
  cf := some (fileOf pool4 2 #[] #[] 1537 4 #[] #[])
  fields := #[]
  methods := #[]
  instanceTypes := #[]
  staticTypes := #[]
  resolved := Array.replicate 8 none
  statics := none }

/-- the primitive byte -/
def k5 : Class := { plain "byte" none with kind := .primitive 'B', accessFlags := 0x411 }
/-- [B -/
def k6 : Class := { plain "[B" (some 0) with kind := .array 5 .byte, interfaces := #[3, 4], accessFlags := 1041 }

/-- the primitive int -/
def k7 : Class := { plain "int" none with kind := .primitive 'I', accessFlags := 0x411 }
/-- [I -/
def k8 : Class := { plain "[I" (some 0) with kind := .array 7 .int, interfaces := #[3, 4], accessFlags := 1041 }

def heap : Heap := #[]
def classes : Array Class := #[k0, k1, k2, k3, k4, k5, k6, k7, k8]
def interned : List (Array UInt16 × Addr) := []
def slotsUsed : Nat := 0
def theMethod : MethodId := ⟨1, 2⟩
def args0 : Array Value := #[.int 5, .int 7, .int 9]
def aboutOver (below : List Frame) : State where
  vm := { classes := classes, interned := interned.toArray }
  heap := heap
  slotsUsed := slotsUsed
  threads := #[{ frames := .invoking theMethod args0 :: below }]
def below0 : List Frame := [.native { method := ⟨0, 0⟩, args := #[] }]
def about1 : State := aboutOver below0
def p0 : Program := .bare "" "" ""
def e0 : Env := launch0.env 0 0 0
theorem w_frames : about1.frames = Frame.invoking theMethod args0 :: below0 := rfl
set_option maxRecDepth 65536 in
theorem w_args : argsFit about1.vm theMethod args0 = true := by decide +kernel
set_option maxRecDepth 65536 in
theorem w_heap : heapFits about1 = true := by decide +kernel
set_option maxRecDepth 65536 in
theorem w_runnable : about1.curStatus? = some .runnable := by decide +kernel
set_option maxRecDepth 65536 in
theorem w_alone : about1.alone = true := by decide +kernel
set_option maxRecDepth 65536 in
theorem w_named : about1.methodNamed? x = some theMethod := by decide +kernel
set_option maxRecDepth 65536 in
theorem w_hears : about1.hears theMethod below0 = true := by decide +kernel
set_option maxRecDepth 65536 in
theorem w_ripe : about1.ripe theMethod args0 below0 = true := by decide +kernel
theorem w_running : about1.status = .running := rfl
set_option maxRecDepth 65536 in
theorem w_room : about1.hasRoom e0.platform room_1 = true :=
  launch0.hasRoom_least _ room_1 (by decide +kernel) (by decide +kernel) (by decide +kernel) (by decide +kernel) (by decide +kernel) (by decide +kernel)
theorem allAtoms_all (ts : List Jvm.Cond) (a : Array Jvm.Value) (st : Jvm.State) : (allAtoms ts).before a st = ts.all (fun c => c.before a st) := by
  induction ts with
  | nil => rfl
  | cons c t ih =>
    show (Jvm.Cond.and c (allAtoms t)).before a st = _
    rw [Jvm.Cond.before_and, ih, List.all_cons]
def words1 : List Jvm.Cond := Jvm.Cond.code x code maxLocals ret :: tables_1
/-- a 'code' word, met by the world's own term for the bytes: nothing is compared byte by byte -/
theorem code_word {y : MethodName} {bytes : ByteArray} {mx : Nat} {rt : Option FieldType} {a : Array Value} {s : State} {m : MethodId} {meth : Method} {c : Code} (h1 : s.methodNamed? y = some m) (h2 : s.vm.method? m = some meth) (h3 : meth.code = some c) (h4 : c.code = bytes)
    (h5 : (c.maxLocals == mx && c.exceptionTable.isEmpty && decide (c.maxStack ≤ mostOperands) && decide (meth.sig.returnType = rt) && !meth.locks && decide (parseMethodDescriptor y.desc = some meth.sig)) = true) : (Jvm.Cond.code y bytes mx rt).before a s = true := by
  simp only [Bool.and_eq_true, beq_iff_eq, Bool.not_eq_true', decide_eq_true_eq] at h5
  obtain ⟨⟨⟨⟨⟨g1, g2⟩, g3⟩, g4⟩, g5⟩, g6⟩ := h5
  simp [Cond.before, Cond.holds, Cond.value, h1, h2, h3, h4, g1, g2, g3, g4, g5, g6]
def isCode : Jvm.Cond → Bool
  | .code _ _ _ _ => true
  | _ => false
theorem all_split {L : List Jvm.Cond} {P : Jvm.Cond → Bool} (h1 : L.all (fun c => isCode c || P c) = true) (h2 : ∀ c ∈ L.filter isCode, P c = true) : L.all P = true := by
  refine List.all_eq_true.mpr fun c hc => ?_
  have h := List.all_eq_true.mp h1 c hc
  rcases Bool.eq_false_or_eq_true (isCode c) with hi | hi
  · exact h2 c (List.mem_filter.mpr ⟨hc, hi⟩)
  · simpa [hi] using h
set_option maxRecDepth 65536 in
theorem w_c0 : (Jvm.Cond.code x code maxLocals ret).before args0 about1 = true := code_word (m := ⟨1, 2⟩) (meth := k1m2) (c := k1c2) (by decide +kernel) rfl rfl rfl (by decide +kernel)
set_option maxRecDepth 65536 in
theorem w_c1 : (Jvm.Cond.code ({ cls := "com/example/libtreegram/libtreegram/model/XmlNames", name := "isNcNameStartChar", desc := "(I)Z" } : Jvm.MethodName) prog_86_method_7_code (1 : Nat) (Option.some Jvm.ClassFile.FieldType.boolean)).before args0 about1 = true := code_word (m := ⟨2, 1⟩) (meth := k2m1) (c := k2c1) (by decide +kernel) rfl rfl rfl (by decide +kernel)
set_option maxRecDepth 65536 in
theorem w_c2 : (Jvm.Cond.code ({ cls := "com/example/libtreegram/libtreegram/model/XmlNamesIsNcNameStartCharPinLaw", name := "excluded", desc := "(I)Z" } : Jvm.MethodName) method_2_code (1 : Nat) (Option.some Jvm.ClassFile.FieldType.boolean)).before args0 about1 = true := code_word (m := ⟨1, 1⟩) (meth := k1m1) (c := k1c1) (by decide +kernel) rfl rfl rfl (by decide +kernel)
def codes1 : List Jvm.Cond := [Jvm.Cond.code x code maxLocals ret, Jvm.Cond.code ({ cls := "com/example/libtreegram/libtreegram/model/XmlNames", name := "isNcNameStartChar", desc := "(I)Z" } : Jvm.MethodName) prog_86_method_7_code (1 : Nat) (Option.some Jvm.ClassFile.FieldType.boolean), Jvm.Cond.code ({ cls := "com/example/libtreegram/libtreegram/model/XmlNamesIsNcNameStartCharPinLaw", name := "excluded", desc := "(I)Z" } : Jvm.MethodName) method_2_code (1 : Nat) (Option.some Jvm.ClassFile.FieldType.boolean)]
set_option maxRecDepth 65536 in
theorem codes_eq : words1.filter isCode = codes1 := rfl
theorem w_codes : ∀ c ∈ words1.filter isCode, c.before args0 about1 = true := by
  rw [codes_eq]
  intro c hc
  simp only [codes1, List.mem_cons, List.not_mem_nil, or_false] at hc
  rcases hc with rfl | rfl | rfl
  · exact w_c0
  · exact w_c1
  · exact w_c2
set_option maxRecDepth 65536 in
theorem w_t1 : words1.all (fun c => isCode c || c.before args0 about1) = true := by decide +kernel
theorem w_tables : (allAtoms (Jvm.Cond.code x code maxLocals ret :: tables_1)).before args0 about1 = true := by
  rw [allAtoms_all]
  show words1.all (fun c => c.before args0 about1) = true
  refine all_split ?_ w_codes
  rw [w_t1]
set_option maxRecDepth 65536 in
theorem w_case : (Jvm.Cond.and given_1 narrow_1).before args0 about1 = true := by decide +kernel
theorem w_applies : (headSpec (Jvm.Cond.code x code maxLocals ret :: tables_1) room_1).applies x e0.platform about1 = true :=
  (Spec.applies_iff w_frames).mpr ⟨w_running, w_runnable, w_alone, w_named, w_hears, w_ripe, w_room, w_tables⟩
theorem atStart : AtStart classFile x code maxLocals ret World_1 tables_1 room_1 Calls_1 rest_1 Pre_1 launch0 p0 e0 about1 theMethod args0 below0 :=
  ⟨lists_1, trivial, launch0.admits_env _ _ _, launch0.least_env, fairChoices_fair.cas, fairChoices_fair.clock, w_frames, w_args, w_heap, w_applies, trivial, trivial, w_case⟩
end start1
theorem witness_1 : WitnessClaimed_1 := ⟨start1.p0, start1.e0, start1.about1, start1.theMethod, start1.args0, start1.below0, start1.atStart⟩
end Jvm.Pilot.@@N@@
