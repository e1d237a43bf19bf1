import JvmDerived
import JvmDerived.Pilot.@@N@@Statement
import JvmDerived.Pilot.@@N@@Code
set_option linter.unusedVariables false
set_option linter.unusedSimpArgs false
namespace Jvm.RoadKit
open Sem ClassFile Op Lib Jvm.Stand Jvm.Free Jvm.LawKit
section New
variable {p : Program} {l : Launch} {e : Env} {R : Room} {s : State} {m : MethodId} {args : Array Value} {below : List Frame} {meth : Method} {c : Code} {T : State} {locs : List Loc} {cells slots : Nat}
theorem retI (X : Stand p l e R s m args below meth c T locs cells slots) (hx : p.tables.exec = Jvm.exec) {pc : Nat} {Ls : Array Slot} {z : Int32} {rest : List Value} (hret : meth.sig.returnType = some .int) (hd : decode c.code pc = .ok (.ireturn, 1)) {fs : List Frame}
    (hl : ∀ (f : JFrame) (acts : List Action), f.method = m → f.locked = none → f.entered = [] → (doReturn e (T.setTop f) acts (some (.int z))).1 = T.setFrames fs) : Steps p.tables e below (T.setTop (mkF m pc Ls (.int z :: rest))) (T.setFrames fs) := by
  have hm' : T.vm.method? m = some meth := X.method'
  have hn : narrow .int (.int z) = .int z := rfl
  show Steps p.tables e below (T.setTop { method := m, pc := pc, locals := Ls, stack := _ :: rest, locked := none }) _
  jvm_step X.here [X.here.top, hx, hd, hm', hret, hn]
  first | (intro acts; rw [hl _ acts rfl rfl rfl]) | rw [hl _ _ rfl rfl rfl]
  exact Steps.refl _
theorem retJ (X : Stand p l e R s m args below meth c T locs cells slots) (hx : p.tables.exec = Jvm.exec) {pc : Nat} {Ls : Array Slot} {z : Int64} {rest : List Value} (hret : meth.sig.returnType = some .long) (hd : decode c.code pc = .ok (.lreturn, 1)) {fs : List Frame}
    (hl : ∀ (f : JFrame) (acts : List Action), f.method = m → f.locked = none → f.entered = [] → (doReturn e (T.setTop f) acts (some (.long z))).1 = T.setFrames fs) : Steps p.tables e below (T.setTop (mkF m pc Ls (.long z :: rest))) (T.setFrames fs) := by
  have hm' : T.vm.method? m = some meth := X.method'
  have hn : narrow .long (.long z) = .long z := rfl
  show Steps p.tables e below (T.setTop { method := m, pc := pc, locals := Ls, stack := _ :: rest, locked := none }) _
  jvm_step X.here [X.here.top, hx, hd, hm', hret, hn]
  first | (intro acts; rw [hl _ acts rfl rfl rfl]) | rw [hl _ _ rfl rfl rfl]
  exact Steps.refl _
end New
end Jvm.RoadKit
namespace Jvm.Pilot.@@N@@
open Jvm Jvm.ClassFile Sem Op Lib Jvm.Free Jvm.Stand Jvm.LawKit Jvm.RoadKit Bundle Jvm.Pilot.@@N@@.Jvm.D
section Own
variable {p : Program} {l : Launch} {e : Env} {R : Room} {s : State} {m : MethodId} {args : Array Value} {below : List Frame} {meth : Method} {c : Code} {T : State} {locs : List Loc} {cells slots : Nat} {Q : Option Value → Heap → List Loc → Prop} {kc ks : Nat}
/-- from this frame the walk goes to its end, with Q -/
def OG (p : Program) (e : Env) (below : List Frame) (s : State) (Q : Option Value → Heap → List Loc → Prop) (kc ks : Nat) (T : State) (g : JFrame) : Prop :=
  ∃ s₂ o, Steps p.tables e below (T.setTop g) s₂ ∧ s₂.status = .running ∧ Ended s₂ below o ∧ ∃ v L, o = .returned v ∧ Q v s₂.heap L ∧ FrameEnd s o s₂ L kc ks
theorem OG.step {T' : State} {g g' : JFrame} (st : ∀ t, Steps p.tables e below (T'.setTop g') t → Steps p.tables e below (T.setTop g) t) (h : OG p e below s Q kc ks T' g') : OG p e below s Q kc ks T g := by
  obtain ⟨s₂, o, h1, h2⟩ := h
  exact ⟨s₂, o, st _ h1, h2⟩
theorem OG.cast {g g' : JFrame} (q : g = g') (h : OG p e below s Q kc ks T g') : OG p e below s Q kc ks T g := q ▸ h
theorem OG.mono {Q' : Option Value → Heap → List Loc → Prop} {g : JFrame} (hq : ∀ v h L, Q v h L → Q' v h L) (h : OG p e below s Q kc ks T g) : OG p e below s Q' kc ks T g := by
  obtain ⟨s₂, o, h1, h2, h3, v, L, h4, h5, h6⟩ := h
  exact ⟨s₂, o, h1, h2, h3, v, L, h4, hq _ _ _ h5, h6⟩
theorem o_iadd (X : Stand p l e R s m args below meth c T locs cells slots) (hx : p.tables.exec = Jvm.exec) {pc pc' : Nat} {Ls : Array Slot} {x y : Int32} {rest : List Value} (hd : decode c.code pc = .ok (.iadd, 1)) (hp : pc + 1 = pc') (h : OG p e below s Q kc ks T (mkF m pc' Ls (.int (x + y) :: rest))) : OG p e below s Q kc ks T (mkF m pc Ls (.int y :: .int x :: rest)) := by
  subst hp; exact OG.step (fun t q => XS.iadd X.here hx rfl hd rfl q) h
theorem o_isub (X : Stand p l e R s m args below meth c T locs cells slots) (hx : p.tables.exec = Jvm.exec) {pc pc' : Nat} {Ls : Array Slot} {x y : Int32} {rest : List Value} (hd : decode c.code pc = .ok (.isub, 1)) (hp : pc + 1 = pc') (h : OG p e below s Q kc ks T (mkF m pc' Ls (.int (x - y) :: rest))) : OG p e below s Q kc ks T (mkF m pc Ls (.int y :: .int x :: rest)) := by
  subst hp; exact OG.step (fun t q => XS.isub X.here hx rfl hd rfl q) h
theorem o_imul (X : Stand p l e R s m args below meth c T locs cells slots) (hx : p.tables.exec = Jvm.exec) {pc pc' : Nat} {Ls : Array Slot} {x y : Int32} {rest : List Value} (hd : decode c.code pc = .ok (.imul, 1)) (hp : pc + 1 = pc') (h : OG p e below s Q kc ks T (mkF m pc' Ls (.int (x * y) :: rest))) : OG p e below s Q kc ks T (mkF m pc Ls (.int y :: .int x :: rest)) := by
  subst hp; exact OG.step (fun t q => XS.imul X.here hx rfl hd rfl q) h
theorem o_iand (X : Stand p l e R s m args below meth c T locs cells slots) (hx : p.tables.exec = Jvm.exec) {pc pc' : Nat} {Ls : Array Slot} {x y : Int32} {rest : List Value} (hd : decode c.code pc = .ok (.iand, 1)) (hp : pc + 1 = pc') (h : OG p e below s Q kc ks T (mkF m pc' Ls (.int (x &&& y) :: rest))) : OG p e below s Q kc ks T (mkF m pc Ls (.int y :: .int x :: rest)) := by
  subst hp; exact OG.step (fun t q => XS.iand X.here hx rfl hd rfl q) h
theorem o_ior (X : Stand p l e R s m args below meth c T locs cells slots) (hx : p.tables.exec = Jvm.exec) {pc pc' : Nat} {Ls : Array Slot} {x y : Int32} {rest : List Value} (hd : decode c.code pc = .ok (.ior, 1)) (hp : pc + 1 = pc') (h : OG p e below s Q kc ks T (mkF m pc' Ls (.int (x ||| y) :: rest))) : OG p e below s Q kc ks T (mkF m pc Ls (.int y :: .int x :: rest)) := by
  subst hp; exact OG.step (fun t q => XS.ior X.here hx rfl hd rfl q) h
theorem o_ixor (X : Stand p l e R s m args below meth c T locs cells slots) (hx : p.tables.exec = Jvm.exec) {pc pc' : Nat} {Ls : Array Slot} {x y : Int32} {rest : List Value} (hd : decode c.code pc = .ok (.ixor, 1)) (hp : pc + 1 = pc') (h : OG p e below s Q kc ks T (mkF m pc' Ls (.int (x ^^^ y) :: rest))) : OG p e below s Q kc ks T (mkF m pc Ls (.int y :: .int x :: rest)) := by
  subst hp; exact OG.step (fun t q => XS.ixor X.here hx rfl hd rfl q) h
theorem o_ladd (X : Stand p l e R s m args below meth c T locs cells slots) (hx : p.tables.exec = Jvm.exec) {pc pc' : Nat} {Ls : Array Slot} {x y : Int64} {rest : List Value} (hd : decode c.code pc = .ok (.ladd, 1)) (hp : pc + 1 = pc') (h : OG p e below s Q kc ks T (mkF m pc' Ls (.long (x + y) :: rest))) : OG p e below s Q kc ks T (mkF m pc Ls (.long y :: .long x :: rest)) := by
  subst hp; exact OG.step (fun t q => XS.ladd X.here hx rfl hd rfl q) h
theorem o_lsub (X : Stand p l e R s m args below meth c T locs cells slots) (hx : p.tables.exec = Jvm.exec) {pc pc' : Nat} {Ls : Array Slot} {x y : Int64} {rest : List Value} (hd : decode c.code pc = .ok (.lsub, 1)) (hp : pc + 1 = pc') (h : OG p e below s Q kc ks T (mkF m pc' Ls (.long (x - y) :: rest))) : OG p e below s Q kc ks T (mkF m pc Ls (.long y :: .long x :: rest)) := by
  subst hp; exact OG.step (fun t q => XS.lsub X.here hx rfl hd rfl q) h
theorem o_lmul (X : Stand p l e R s m args below meth c T locs cells slots) (hx : p.tables.exec = Jvm.exec) {pc pc' : Nat} {Ls : Array Slot} {x y : Int64} {rest : List Value} (hd : decode c.code pc = .ok (.lmul, 1)) (hp : pc + 1 = pc') (h : OG p e below s Q kc ks T (mkF m pc' Ls (.long (x * y) :: rest))) : OG p e below s Q kc ks T (mkF m pc Ls (.long y :: .long x :: rest)) := by
  subst hp; exact OG.step (fun t q => XS.lmul X.here hx rfl hd rfl q) h
theorem o_land (X : Stand p l e R s m args below meth c T locs cells slots) (hx : p.tables.exec = Jvm.exec) {pc pc' : Nat} {Ls : Array Slot} {x y : Int64} {rest : List Value} (hd : decode c.code pc = .ok (.land, 1)) (hp : pc + 1 = pc') (h : OG p e below s Q kc ks T (mkF m pc' Ls (.long (x &&& y) :: rest))) : OG p e below s Q kc ks T (mkF m pc Ls (.long y :: .long x :: rest)) := by
  subst hp; exact OG.step (fun t q => XS.land X.here hx rfl hd rfl q) h
theorem o_lor (X : Stand p l e R s m args below meth c T locs cells slots) (hx : p.tables.exec = Jvm.exec) {pc pc' : Nat} {Ls : Array Slot} {x y : Int64} {rest : List Value} (hd : decode c.code pc = .ok (.lor, 1)) (hp : pc + 1 = pc') (h : OG p e below s Q kc ks T (mkF m pc' Ls (.long (x ||| y) :: rest))) : OG p e below s Q kc ks T (mkF m pc Ls (.long y :: .long x :: rest)) := by
  subst hp; exact OG.step (fun t q => XS.lor X.here hx rfl hd rfl q) h
theorem o_lxor (X : Stand p l e R s m args below meth c T locs cells slots) (hx : p.tables.exec = Jvm.exec) {pc pc' : Nat} {Ls : Array Slot} {x y : Int64} {rest : List Value} (hd : decode c.code pc = .ok (.lxor, 1)) (hp : pc + 1 = pc') (h : OG p e below s Q kc ks T (mkF m pc' Ls (.long (x ^^^ y) :: rest))) : OG p e below s Q kc ks T (mkF m pc Ls (.long y :: .long x :: rest)) := by
  subst hp; exact OG.step (fun t q => XS.lxor X.here hx rfl hd rfl q) h
theorem o_ishl (X : Stand p l e R s m args below meth c T locs cells slots) (hx : p.tables.exec = Jvm.exec) {pc pc' : Nat} {Ls : Array Slot} {x y : Int32} {rest : List Value} (hd : decode c.code pc = .ok (.ishl, 1)) (hp : pc + 1 = pc') (h : OG p e below s Q kc ks T (mkF m pc' Ls (.int (x <<< (y &&& 31)) :: rest))) : OG p e below s Q kc ks T (mkF m pc Ls (.int y :: .int x :: rest)) := by
  subst hp; exact OG.step (fun t q => XS.ishl X.here hx rfl hd rfl q) h
theorem o_ishr (X : Stand p l e R s m args below meth c T locs cells slots) (hx : p.tables.exec = Jvm.exec) {pc pc' : Nat} {Ls : Array Slot} {x y : Int32} {rest : List Value} (hd : decode c.code pc = .ok (.ishr, 1)) (hp : pc + 1 = pc') (h : OG p e below s Q kc ks T (mkF m pc' Ls (.int (x >>> (y &&& 31)) :: rest))) : OG p e below s Q kc ks T (mkF m pc Ls (.int y :: .int x :: rest)) := by
  subst hp; exact OG.step (fun t q => XS.ishr X.here hx rfl hd rfl q) h
theorem o_iushr (X : Stand p l e R s m args below meth c T locs cells slots) (hx : p.tables.exec = Jvm.exec) {pc pc' : Nat} {Ls : Array Slot} {x y : Int32} {rest : List Value} (hd : decode c.code pc = .ok (.iushr, 1)) (hp : pc + 1 = pc') (h : OG p e below s Q kc ks T (mkF m pc' Ls (.int ((x.toUInt32 >>> (y &&& 31).toUInt32).toInt32) :: rest))) : OG p e below s Q kc ks T (mkF m pc Ls (.int y :: .int x :: rest)) := by
  subst hp; exact OG.step (fun t q => XS.iushr X.here hx rfl hd rfl q) h
theorem o_lshl (X : Stand p l e R s m args below meth c T locs cells slots) (hx : p.tables.exec = Jvm.exec) {pc pc' : Nat} {Ls : Array Slot} {x : Int64} {y : Int32} {rest : List Value} (hd : decode c.code pc = .ok (.lshl, 1)) (hp : pc + 1 = pc') (h : OG p e below s Q kc ks T (mkF m pc' Ls (.long (x <<< (y &&& 0x3f).toInt64) :: rest))) : OG p e below s Q kc ks T (mkF m pc Ls (.int y :: .long x :: rest)) := by
  subst hp; exact OG.step (fun t q => XS.lshl X.here hx rfl hd rfl q) h
theorem o_lshr (X : Stand p l e R s m args below meth c T locs cells slots) (hx : p.tables.exec = Jvm.exec) {pc pc' : Nat} {Ls : Array Slot} {x : Int64} {y : Int32} {rest : List Value} (hd : decode c.code pc = .ok (.lshr, 1)) (hp : pc + 1 = pc') (h : OG p e below s Q kc ks T (mkF m pc' Ls (.long (x >>> (y &&& 0x3f).toInt64) :: rest))) : OG p e below s Q kc ks T (mkF m pc Ls (.int y :: .long x :: rest)) := by
  subst hp; exact OG.step (fun t q => XS.lshr X.here hx rfl hd rfl q) h
theorem o_lushr (X : Stand p l e R s m args below meth c T locs cells slots) (hx : p.tables.exec = Jvm.exec) {pc pc' : Nat} {Ls : Array Slot} {x : Int64} {y : Int32} {rest : List Value} (hd : decode c.code pc = .ok (.lushr, 1)) (hp : pc + 1 = pc') (h : OG p e below s Q kc ks T (mkF m pc' Ls (.long ((x.toUInt64 >>> (y &&& 0x3f).toInt64.toUInt64).toInt64) :: rest))) : OG p e below s Q kc ks T (mkF m pc Ls (.int y :: .long x :: rest)) := by
  subst hp; exact OG.step (fun t q => XS.lushr X.here hx rfl hd rfl q) h
theorem o_idiv (X : Stand p l e R s m args below meth c T locs cells slots) (hx : p.tables.exec = Jvm.exec) {pc pc' : Nat} {Ls : Array Slot} {x y : Int32} {rest : List Value} (hd : decode c.code pc = .ok (.idiv, 1)) (hy : y ≠ 0) (hp : pc + 1 = pc') (h : OG p e below s Q kc ks T (mkF m pc' Ls (.int (x / y) :: rest))) : OG p e below s Q kc ks T (mkF m pc Ls (.int y :: .int x :: rest)) := by
  subst hp; exact OG.step (fun t q => XS.idiv X.here hx rfl hd rfl hy q) h
theorem o_ldiv (X : Stand p l e R s m args below meth c T locs cells slots) (hx : p.tables.exec = Jvm.exec) {pc pc' : Nat} {Ls : Array Slot} {x y : Int64} {rest : List Value} (hd : decode c.code pc = .ok (.ldiv, 1)) (hy : y ≠ 0) (hp : pc + 1 = pc') (h : OG p e below s Q kc ks T (mkF m pc' Ls (.long (x / y) :: rest))) : OG p e below s Q kc ks T (mkF m pc Ls (.long y :: .long x :: rest)) := by
  subst hp; exact OG.step (fun t q => XS.ldiv X.here hx rfl hd rfl hy q) h
theorem o_irem (X : Stand p l e R s m args below meth c T locs cells slots) (hx : p.tables.exec = Jvm.exec) {pc pc' : Nat} {Ls : Array Slot} {x y : Int32} {rest : List Value} (hd : decode c.code pc = .ok (.irem, 1)) (hy : y ≠ 0) (hp : pc + 1 = pc') (h : OG p e below s Q kc ks T (mkF m pc' Ls (.int (x % y) :: rest))) : OG p e below s Q kc ks T (mkF m pc Ls (.int y :: .int x :: rest)) := by
  subst hp; exact OG.step (fun t q => iremM X hx rfl hd rfl hy q) h
theorem o_lrem (X : Stand p l e R s m args below meth c T locs cells slots) (hx : p.tables.exec = Jvm.exec) {pc pc' : Nat} {Ls : Array Slot} {x y : Int64} {rest : List Value} (hd : decode c.code pc = .ok (.lrem, 1)) (hy : y ≠ 0) (hp : pc + 1 = pc') (h : OG p e below s Q kc ks T (mkF m pc' Ls (.long (x % y) :: rest))) : OG p e below s Q kc ks T (mkF m pc Ls (.long y :: .long x :: rest)) := by
  subst hp; rw [← lrem_mod] at h; exact OG.step (fun t q => XS.lrem X.here hx rfl hd rfl hy q) h
theorem o_ineg (X : Stand p l e R s m args below meth c T locs cells slots) (hx : p.tables.exec = Jvm.exec) {pc pc' : Nat} {Ls : Array Slot} {x : Int32} {rest : List Value} (hd : decode c.code pc = .ok (.ineg, 1)) (hp : pc + 1 = pc') (h : OG p e below s Q kc ks T (mkF m pc' Ls (.int ((-x)) :: rest))) : OG p e below s Q kc ks T (mkF m pc Ls (.int x :: rest)) := by
  subst hp; exact OG.step (fun t q => XS.ineg X.here hx rfl hd rfl q) h
theorem o_lneg (X : Stand p l e R s m args below meth c T locs cells slots) (hx : p.tables.exec = Jvm.exec) {pc pc' : Nat} {Ls : Array Slot} {x : Int64} {rest : List Value} (hd : decode c.code pc = .ok (.lneg, 1)) (hp : pc + 1 = pc') (h : OG p e below s Q kc ks T (mkF m pc' Ls (.long ((-x)) :: rest))) : OG p e below s Q kc ks T (mkF m pc Ls (.long x :: rest)) := by
  subst hp; exact OG.step (fun t q => XS.lneg X.here hx rfl hd rfl q) h
theorem o_i2l (X : Stand p l e R s m args below meth c T locs cells slots) (hx : p.tables.exec = Jvm.exec) {pc pc' : Nat} {Ls : Array Slot} {x : Int32} {rest : List Value} (hd : decode c.code pc = .ok (.i2l, 1)) (hp : pc + 1 = pc') (h : OG p e below s Q kc ks T (mkF m pc' Ls (.long (x.toInt64) :: rest))) : OG p e below s Q kc ks T (mkF m pc Ls (.int x :: rest)) := by
  subst hp; exact OG.step (fun t q => XS.i2l X.here hx rfl hd rfl q) h
theorem o_l2i (X : Stand p l e R s m args below meth c T locs cells slots) (hx : p.tables.exec = Jvm.exec) {pc pc' : Nat} {Ls : Array Slot} {x : Int64} {rest : List Value} (hd : decode c.code pc = .ok (.l2i, 1)) (hp : pc + 1 = pc') (h : OG p e below s Q kc ks T (mkF m pc' Ls (.int (x.toInt32) :: rest))) : OG p e below s Q kc ks T (mkF m pc Ls (.long x :: rest)) := by
  subst hp; exact OG.step (fun t q => XS.l2i X.here hx rfl hd rfl q) h
theorem o_i2b (X : Stand p l e R s m args below meth c T locs cells slots) (hx : p.tables.exec = Jvm.exec) {pc pc' : Nat} {Ls : Array Slot} {x : Int32} {rest : List Value} (hd : decode c.code pc = .ok (.i2b, 1)) (hp : pc + 1 = pc') (h : OG p e below s Q kc ks T (mkF m pc' Ls (.int (x.toInt8.toInt32) :: rest))) : OG p e below s Q kc ks T (mkF m pc Ls (.int x :: rest)) := by
  subst hp; exact OG.step (fun t q => XS.i2b X.here hx rfl hd rfl q) h
theorem o_i2c (X : Stand p l e R s m args below meth c T locs cells slots) (hx : p.tables.exec = Jvm.exec) {pc pc' : Nat} {Ls : Array Slot} {x : Int32} {rest : List Value} (hd : decode c.code pc = .ok (.i2c, 1)) (hp : pc + 1 = pc') (h : OG p e below s Q kc ks T (mkF m pc' Ls (.int (x.toUInt32.toUInt16.toUInt32.toInt32) :: rest))) : OG p e below s Q kc ks T (mkF m pc Ls (.int x :: rest)) := by
  subst hp; exact OG.step (fun t q => XS.i2c X.here hx rfl hd rfl q) h
theorem o_i2s (X : Stand p l e R s m args below meth c T locs cells slots) (hx : p.tables.exec = Jvm.exec) {pc pc' : Nat} {Ls : Array Slot} {x : Int32} {rest : List Value} (hd : decode c.code pc = .ok (.i2s, 1)) (hp : pc + 1 = pc') (h : OG p e below s Q kc ks T (mkF m pc' Ls (.int (x.toInt16.toInt32) :: rest))) : OG p e below s Q kc ks T (mkF m pc Ls (.int x :: rest)) := by
  subst hp; exact OG.step (fun t q => XS.i2s X.here hx rfl hd rfl q) h
theorem o_lcmp (X : Stand p l e R s m args below meth c T locs cells slots) (hx : p.tables.exec = Jvm.exec) {pc pc' : Nat} {Ls : Array Slot} {x y : Int64} {rest : List Value} (hd : decode c.code pc = .ok (.lcmp, 1)) (hp : pc + 1 = pc') (h : OG p e below s Q kc ks T (mkF m pc' Ls (.int (lcmpW x y) :: rest))) : OG p e below s Q kc ks T (mkF m pc Ls (.long y :: .long x :: rest)) := by
  subst hp; exact OG.step (fun t q => XS.lcmp X.here hx rfl hd rfl q) h
theorem o_iconst (X : Stand p l e R s m args below meth c T locs cells slots) (hx : p.tables.exec = Jvm.exec) {pc pc' : Nat} {Ls : Array Slot} {i : Int} {rest : List Value} (hd : decode c.code pc = .ok (.iconst i, 1)) (w : Int32) (hv : Int32.ofInt i = w) (hp : pc + 1 = pc') (h : OG p e below s Q kc ks T (mkF m pc' Ls (.int w :: rest))) : OG p e below s Q kc ks T (mkF m pc Ls (rest)) := by
  subst hp hv; exact OG.step (fun t q => XS.iconst X.here hx rfl hd q) h
theorem o_bipush (X : Stand p l e R s m args below meth c T locs cells slots) (hx : p.tables.exec = Jvm.exec) {pc pc' : Nat} {Ls : Array Slot} {i : Int} {rest : List Value} (hd : decode c.code pc = .ok (.bipush i, 2)) (w : Int32) (hv : (Int8.ofInt i).toInt32 = w) (hp : pc + 2 = pc') (h : OG p e below s Q kc ks T (mkF m pc' Ls (.int w :: rest))) : OG p e below s Q kc ks T (mkF m pc Ls (rest)) := by
  subst hp hv; exact OG.step (fun t q => XS.bipush X.here hx rfl hd q) h
theorem o_sipush (X : Stand p l e R s m args below meth c T locs cells slots) (hx : p.tables.exec = Jvm.exec) {pc pc' : Nat} {Ls : Array Slot} {i : Int} {rest : List Value} (hd : decode c.code pc = .ok (.sipush i, 3)) (w : Int32) (hv : (Int16.ofInt i).toInt32 = w) (hp : pc + 3 = pc') (h : OG p e below s Q kc ks T (mkF m pc' Ls (.int w :: rest))) : OG p e below s Q kc ks T (mkF m pc Ls (rest)) := by
  subst hp hv; exact OG.step (fun t q => XS.sipush X.here hx rfl hd q) h
theorem o_lconst (X : Stand p l e R s m args below meth c T locs cells slots) (hx : p.tables.exec = Jvm.exec) {pc pc' : Nat} {Ls : Array Slot} {i : Fin 2} {rest : List Value} (hd : decode c.code pc = .ok (.lconst i, 1)) (w : Int64) (hv : Int64.ofNat i = w) (hp : pc + 1 = pc') (h : OG p e below s Q kc ks T (mkF m pc' Ls (.long w :: rest))) : OG p e below s Q kc ks T (mkF m pc Ls (rest)) := by
  subst hp hv; exact OG.step (fun t q => XS.lconst X.here hx rfl hd q) h
theorem o_aconst_null (X : Stand p l e R s m args below meth c T locs cells slots) (hx : p.tables.exec = Jvm.exec) {pc pc' : Nat} {Ls : Array Slot} {rest : List Value} (hd : decode c.code pc = .ok (.aconst_null, 1)) (hp : pc + 1 = pc') (h : OG p e below s Q kc ks T (mkF m pc' Ls (.null :: rest))) : OG p e below s Q kc ks T (mkF m pc Ls (rest)) := by
  subst hp; exact OG.step (fun t q => XS.aconstNull X.here hx rfl hd q) h
theorem o_iload_n (X : Stand p l e R s m args below meth c T locs cells slots) (hx : p.tables.exec = Jvm.exec) {pc pc' : Nat} {Ls : Array Slot} {i : Fin 4} {x : Int32} {rest : List Value} (hd : decode c.code pc = .ok (.iload_n i, 1)) (hl : Ls[i.val]? = some (.val (.int x))) (hp : pc + 1 = pc') (h : OG p e below s Q kc ks T (mkF m pc' Ls (.int x :: rest))) : OG p e below s Q kc ks T (mkF m pc Ls (rest)) := by
  subst hp; exact OG.step (fun t q => XS.iloadN X.here hx rfl hd hl q) h
theorem o_iload (X : Stand p l e R s m args below meth c T locs cells slots) (hx : p.tables.exec = Jvm.exec) {pc pc' : Nat} {Ls : Array Slot} {i : Nat} {x : Int32} {rest : List Value} (hd : decode c.code pc = .ok (.iload i, 2)) (hl : Ls[i]? = some (.val (.int x))) (hp : pc + 2 = pc') (h : OG p e below s Q kc ks T (mkF m pc' Ls (.int x :: rest))) : OG p e below s Q kc ks T (mkF m pc Ls (rest)) := by
  subst hp; exact OG.step (fun t q => XS.iload X.here hx rfl hd hl q) h
theorem o_lload_n (X : Stand p l e R s m args below meth c T locs cells slots) (hx : p.tables.exec = Jvm.exec) {pc pc' : Nat} {Ls : Array Slot} {i : Fin 4} {x : Int64} {rest : List Value} (hd : decode c.code pc = .ok (.lload_n i, 1)) (hl : Ls[i.val]? = some (.val (.long x))) (hp : pc + 1 = pc') (h : OG p e below s Q kc ks T (mkF m pc' Ls (.long x :: rest))) : OG p e below s Q kc ks T (mkF m pc Ls (rest)) := by
  subst hp; exact OG.step (fun t q => XS.lloadN X.here hx rfl hd hl q) h
theorem o_lload (X : Stand p l e R s m args below meth c T locs cells slots) (hx : p.tables.exec = Jvm.exec) {pc pc' : Nat} {Ls : Array Slot} {i : Nat} {x : Int64} {rest : List Value} (hd : decode c.code pc = .ok (.lload i, 2)) (hl : Ls[i]? = some (.val (.long x))) (hp : pc + 2 = pc') (h : OG p e below s Q kc ks T (mkF m pc' Ls (.long x :: rest))) : OG p e below s Q kc ks T (mkF m pc Ls (rest)) := by
  subst hp; exact OG.step (fun t q => XS.lload X.here hx rfl hd hl q) h
theorem o_aload_n (X : Stand p l e R s m args below meth c T locs cells slots) (hx : p.tables.exec = Jvm.exec) {pc pc' : Nat} {Ls : Array Slot} {i : Fin 4} {x : Value} {rest : List Value} (hd : decode c.code pc = .ok (.aload_n i, 1)) (hl : Ls[i.val]? = some (.val x)) (hv : x.isRef = true) (hp : pc + 1 = pc') (h : OG p e below s Q kc ks T (mkF m pc' Ls (x :: rest))) : OG p e below s Q kc ks T (mkF m pc Ls (rest)) := by
  subst hp; exact OG.step (fun t q => XS.aloadN X.here hx rfl hd hl hv q) h
theorem o_aload (X : Stand p l e R s m args below meth c T locs cells slots) (hx : p.tables.exec = Jvm.exec) {pc pc' : Nat} {Ls : Array Slot} {i : Nat} {x : Value} {rest : List Value} (hd : decode c.code pc = .ok (.aload i, 2)) (hl : Ls[i]? = some (.val x)) (hv : x.isRef = true) (hp : pc + 2 = pc') (h : OG p e below s Q kc ks T (mkF m pc' Ls (x :: rest))) : OG p e below s Q kc ks T (mkF m pc Ls (rest)) := by
  subst hp; exact OG.step (fun t q => XS.aload X.here hx rfl hd hl hv q) h
theorem o_istore_n (X : Stand p l e R s m args below meth c T locs cells slots) (hx : p.tables.exec = Jvm.exec) {pc pc' : Nat} {Ls : Array Slot} {i : Fin 4} {x : Int32} {rest : List Value} (hd : decode c.code pc = .ok (.istore_n i, 1)) (l' : Array Slot) (hl : storeLocals Ls i.val (.int x) = some l') (hp : pc + 1 = pc') (h : OG p e below s Q kc ks T (mkF m pc' l' (rest))) : OG p e below s Q kc ks T (mkF m pc Ls (.int x :: rest)) := by
  subst hp; exact OG.step (fun t q => XS.istoreN X.here hx rfl hd rfl hl q) h
theorem o_istore (X : Stand p l e R s m args below meth c T locs cells slots) (hx : p.tables.exec = Jvm.exec) {pc pc' : Nat} {Ls : Array Slot} {i : Nat} {x : Int32} {rest : List Value} (hd : decode c.code pc = .ok (.istore i, 2)) (l' : Array Slot) (hl : storeLocals Ls i (.int x) = some l') (hp : pc + 2 = pc') (h : OG p e below s Q kc ks T (mkF m pc' l' (rest))) : OG p e below s Q kc ks T (mkF m pc Ls (.int x :: rest)) := by
  subst hp; exact OG.step (fun t q => XS.istore X.here hx rfl hd rfl hl q) h
theorem o_lstore_n (X : Stand p l e R s m args below meth c T locs cells slots) (hx : p.tables.exec = Jvm.exec) {pc pc' : Nat} {Ls : Array Slot} {i : Fin 4} {x : Int64} {rest : List Value} (hd : decode c.code pc = .ok (.lstore_n i, 1)) (l' : Array Slot) (hl : storeLocals Ls i.val (.long x) = some l') (hp : pc + 1 = pc') (h : OG p e below s Q kc ks T (mkF m pc' l' (rest))) : OG p e below s Q kc ks T (mkF m pc Ls (.long x :: rest)) := by
  subst hp; exact OG.step (fun t q => XS.lstoreN X.here hx rfl hd rfl hl q) h
theorem o_lstore (X : Stand p l e R s m args below meth c T locs cells slots) (hx : p.tables.exec = Jvm.exec) {pc pc' : Nat} {Ls : Array Slot} {i : Nat} {x : Int64} {rest : List Value} (hd : decode c.code pc = .ok (.lstore i, 2)) (l' : Array Slot) (hl : storeLocals Ls i (.long x) = some l') (hp : pc + 2 = pc') (h : OG p e below s Q kc ks T (mkF m pc' l' (rest))) : OG p e below s Q kc ks T (mkF m pc Ls (.long x :: rest)) := by
  subst hp; exact OG.step (fun t q => XS.lstore X.here hx rfl hd rfl hl q) h
theorem o_astore_n (X : Stand p l e R s m args below meth c T locs cells slots) (hx : p.tables.exec = Jvm.exec) {pc pc' : Nat} {Ls : Array Slot} {i : Fin 4} {x : Value} {rest : List Value} (hd : decode c.code pc = .ok (.astore_n i, 1)) (hv : x.isRef = true) (l' : Array Slot) (hl : storeLocals Ls i.val x = some l') (hp : pc + 1 = pc') (h : OG p e below s Q kc ks T (mkF m pc' l' (rest))) : OG p e below s Q kc ks T (mkF m pc Ls (x :: rest)) := by
  subst hp; exact OG.step (fun t q => XS.astoreN X.here hx rfl hd rfl hv hl q) h
theorem o_astore (X : Stand p l e R s m args below meth c T locs cells slots) (hx : p.tables.exec = Jvm.exec) {pc pc' : Nat} {Ls : Array Slot} {i : Nat} {x : Value} {rest : List Value} (hd : decode c.code pc = .ok (.astore i, 2)) (hv : x.isRef = true) (l' : Array Slot) (hl : storeLocals Ls i x = some l') (hp : pc + 2 = pc') (h : OG p e below s Q kc ks T (mkF m pc' l' (rest))) : OG p e below s Q kc ks T (mkF m pc Ls (x :: rest)) := by
  subst hp; exact OG.step (fun t q => XS.astore X.here hx rfl hd rfl hv hl q) h
theorem o_iinc (X : Stand p l e R s m args below meth c T locs cells slots) (hx : p.tables.exec = Jvm.exec) {pc pc' : Nat} {Ls : Array Slot} {i : Nat} {k : Int} {x : Int32} {rest : List Value} (hd : decode c.code pc = .ok (.iinc i k, 3)) (w : Int32) (hw' : Int32.ofInt k = w) (hl : Ls[i]? = some (.val (.int x))) (l' : Array Slot) (hl' : storeLocals Ls i (.int (x + w)) = some l') (hp : pc + 3 = pc') (h : OG p e below s Q kc ks T (mkF m pc' l' (rest))) : OG p e below s Q kc ks T (mkF m pc Ls (rest)) := by
  subst hp hw'; exact OG.step (fun t q => XS.iinc X.here hx rfl hd hl hl' q) h
theorem o_dup (X : Stand p l e R s m args below meth c T locs cells slots) (hx : p.tables.exec = Jvm.exec) {pc pc' : Nat} {Ls : Array Slot} {x : Value} {rest : List Value} (hd : decode c.code pc = .ok (.dup, 1)) (hc : x.category = 1) (hp : pc + 1 = pc') (h : OG p e below s Q kc ks T (mkF m pc' Ls (x :: x :: rest))) : OG p e below s Q kc ks T (mkF m pc Ls (x :: rest)) := by
  subst hp; exact OG.step (fun t q => XS.dup X.here hx rfl hd rfl hc q) h
theorem o_pop (X : Stand p l e R s m args below meth c T locs cells slots) (hx : p.tables.exec = Jvm.exec) {pc pc' : Nat} {Ls : Array Slot} {x : Value} {rest : List Value} (hd : decode c.code pc = .ok (.pop, 1)) (hc : x.category = 1) (hp : pc + 1 = pc') (h : OG p e below s Q kc ks T (mkF m pc' Ls (rest))) : OG p e below s Q kc ks T (mkF m pc Ls (x :: rest)) := by
  subst hp; exact OG.step (fun t q => XS.pop X.here hx rfl hd rfl hc q) h
theorem o_dup_x1 (X : Stand p l e R s m args below meth c T locs cells slots) (hx : p.tables.exec = Jvm.exec) {pc pc' : Nat} {Ls : Array Slot} {x y : Value} {rest : List Value} (hd : decode c.code pc = .ok (.dup_x1, 1)) (hc : x.category = 1) (hc2 : y.category = 1) (hp : pc + 1 = pc') (h : OG p e below s Q kc ks T (mkF m pc' Ls (x :: y :: x :: rest))) : OG p e below s Q kc ks T (mkF m pc Ls (x :: y :: rest)) := by
  subst hp; exact OG.step (fun t q => XS.dupX1 X.here hx rfl hd rfl hc hc2 q) h
theorem o_goto (X : Stand p l e R s m args below meth c T locs cells slots) (hx : p.tables.exec = Jvm.exec) {pc pc' : Nat} {Ls : Array Slot} {rest : List Value} {o : Int} (hd : decode c.code pc = .ok (.goto o, 3)) (ho : 0 ≤ (pc : Int) + o) (hp : ((pc : Int) + o).toNat = pc') (h : OG p e below s Q kc ks T (mkF m pc' Ls rest)) : OG p e below s Q kc ks T (mkF m pc Ls rest) :=
  OG.step (fun t q => XS.goto X.here hx rfl rfl hd ho hp q) h
theorem o_ifYes (X : Stand p l e R s m args below meth c T locs cells slots) (hx : p.tables.exec = Jvm.exec) {pc pc' : Nat} {Ls : Array Slot} {rest : List Value} {o : Int} {cd : ClassFile.Cond} {x : Int32} (hd : decode c.code pc = .ok (.ifCond cd o, 3)) (hc : ifCond.holds cd x = true) (ho : 0 ≤ (pc : Int) + o) (hp : ((pc : Int) + o).toNat = pc') (h : OG p e below s Q kc ks T (mkF m pc' Ls rest)) : OG p e below s Q kc ks T (mkF m pc Ls (.int x :: rest)) :=
  OG.step (fun t q => XS.ifYes X.here hx rfl rfl hd rfl hc ho hp q) h
theorem o_ifNo (X : Stand p l e R s m args below meth c T locs cells slots) (hx : p.tables.exec = Jvm.exec) {pc pc' : Nat} {Ls : Array Slot} {rest : List Value} {o : Int} {cd : ClassFile.Cond} {x : Int32} (hd : decode c.code pc = .ok (.ifCond cd o, 3)) (hc : ifCond.holds cd x = false) (hp : pc + 3 = pc') (h : OG p e below s Q kc ks T (mkF m pc' Ls rest)) : OG p e below s Q kc ks T (mkF m pc Ls (.int x :: rest)) := by
  subst hp; exact OG.step (fun t q => XS.ifNo X.here hx rfl hd rfl hc q) h
theorem o_icmpYes (X : Stand p l e R s m args below meth c T locs cells slots) (hx : p.tables.exec = Jvm.exec) {pc pc' : Nat} {Ls : Array Slot} {rest : List Value} {o : Int} {cd : ClassFile.Cond} {x y : Int32} (hd : decode c.code pc = .ok (.if_icmp cd o, 3)) (hc : if_icmp.holds cd x y = true) (ho : 0 ≤ (pc : Int) + o) (hp : ((pc : Int) + o).toNat = pc') (h : OG p e below s Q kc ks T (mkF m pc' Ls rest)) : OG p e below s Q kc ks T (mkF m pc Ls (.int y :: .int x :: rest)) :=
  OG.step (fun t q => XS.icmpYes X.here hx rfl rfl hd rfl hc ho hp q) h
theorem o_icmpNo (X : Stand p l e R s m args below meth c T locs cells slots) (hx : p.tables.exec = Jvm.exec) {pc pc' : Nat} {Ls : Array Slot} {rest : List Value} {o : Int} {cd : ClassFile.Cond} {x y : Int32} (hd : decode c.code pc = .ok (.if_icmp cd o, 3)) (hc : if_icmp.holds cd x y = false) (hp : pc + 3 = pc') (h : OG p e below s Q kc ks T (mkF m pc' Ls rest)) : OG p e below s Q kc ks T (mkF m pc Ls (.int y :: .int x :: rest)) := by
  subst hp; exact OG.step (fun t q => XS.icmpNo X.here hx rfl hd rfl hc q) h
theorem o_ifnonnullYes (X : Stand p l e R s m args below meth c T locs cells slots) (hx : p.tables.exec = Jvm.exec) {pc pc' : Nat} {Ls : Array Slot} {rest : List Value} {o : Int} {b : Addr} (hd : decode c.code pc = .ok (.ifnonnull o, 3)) (ho : 0 ≤ (pc : Int) + o) (hp : ((pc : Int) + o).toNat = pc') (h : OG p e below s Q kc ks T (mkF m pc' Ls rest)) : OG p e below s Q kc ks T (mkF m pc Ls (.ref b :: rest)) :=
  OG.step (fun t q => XS.ifnonnullYes X.here hx rfl rfl hd rfl ho hp q) h
theorem o_ifnonnullNo (X : Stand p l e R s m args below meth c T locs cells slots) (hx : p.tables.exec = Jvm.exec) {pc pc' : Nat} {Ls : Array Slot} {rest : List Value} {o : Int} (hd : decode c.code pc = .ok (.ifnonnull o, 3)) (hp : pc + 3 = pc') (h : OG p e below s Q kc ks T (mkF m pc' Ls rest)) : OG p e below s Q kc ks T (mkF m pc Ls (.null :: rest)) := by
  subst hp; exact OG.step (fun t q => XS.ifnonnullNo X.here hx rfl hd rfl q) h
theorem o_ldcInt (X : Stand p l e R s m args below meth c T locs cells slots) (hx : p.tables.exec = Jvm.exec) {pc pc' : Nat} {Ls : Array Slot} {rest : List Value} {Z : State} {a0 : Array Value} {own : String} {i : Nat} {v : Int32} (hZ : Z.Warmed39 s.vm) (hown : s.vm.findClass own = some m.cls) (hd : decode c.code pc = .ok (.ldc i, 2)) (hk : (Cond.constant own i v).before a0 Z = true) (hp : pc + 2 = pc') (h : OG p e below s Q kc ks T (mkF m pc' Ls (.int v :: rest))) : OG p e below s Q kc ks T (mkF m pc Ls rest) := by
  subst hp; exact OG.step (fun t q => X.ldcInt hx hown (mvT hZ hk) (g := mkF m pc Ls rest) rfl hd t q) h
theorem o_ldc2Long (X : Stand p l e R s m args below meth c T locs cells slots) (hx : p.tables.exec = Jvm.exec) {pc pc' : Nat} {Ls : Array Slot} {rest : List Value} {Z : State} {a0 : Array Value} {own : String} {i : Nat} {v : Int64} (hZ : Z.Warmed39 s.vm) (hown : s.vm.findClass own = some m.cls) (hd : decode c.code pc = .ok (.ldc2_w i, 3)) (hk : (Cond.constantLong own i v).before a0 Z = true) (hp : pc + 3 = pc') (h : OG p e below s Q kc ks T (mkF m pc' Ls (.long v :: rest))) : OG p e below s Q kc ks T (mkF m pc Ls rest) := by
  subst hp; exact OG.step (fun t q => X.ldc2Long hx hown (mvT hZ hk) (g := mkF m pc Ls rest) rfl hd t q) h
theorem o_retI (X : Stand p l e R s m args below meth c T locs cells slots) (hx : p.tables.exec = Jvm.exec) (hlk : meth.locks = false) {pc : Nat} {Ls : Array Slot} {rest : List Value} {z : Int32} (hret : meth.sig.returnType = some .int) (hd : decode c.code pc = .ok (.ireturn, 1)) (hQ : Q (some (.int z)) T.heap locs) (h1 : cells ≤ kc) (h2 : slots ≤ ks) : OG p e below s Q kc ks T (mkF m pc Ls (.int z :: rest)) := by
  obtain ⟨fs, hr, hrun, hended, hW, hsame⟩ := X.leave (v := some (.int z)) (fun h => by rw [hret] at h; cases h) hlk
  exact ⟨_, _, retI X hx hret hd hr, hrun, hended, _, _, rfl, hQ, ⟨_, rfl⟩, hW, hsame.mono h1 h2⟩
theorem o_retJ (X : Stand p l e R s m args below meth c T locs cells slots) (hx : p.tables.exec = Jvm.exec) (hlk : meth.locks = false) {pc : Nat} {Ls : Array Slot} {rest : List Value} {z : Int64} (hret : meth.sig.returnType = some .long) (hd : decode c.code pc = .ok (.lreturn, 1)) (hQ : Q (some (.long z)) T.heap locs) (h1 : cells ≤ kc) (h2 : slots ≤ ks) : OG p e below s Q kc ks T (mkF m pc Ls (.long z :: rest)) := by
  obtain ⟨fs, hr, hrun, hended, hW, hsame⟩ := X.leave (v := some (.long z)) (fun h => by rw [hret] at h; cases h) hlk
  exact ⟨_, _, retJ X hx hret hd hr, hrun, hended, _, _, rfl, hQ, ⟨_, rfl⟩, hW, hsame.mono h1 h2⟩
theorem o_retN (X : Stand p l e R s m args below meth c T locs cells slots) (hx : p.tables.exec = Jvm.exec) (hlk : meth.locks = false) {pc : Nat} {Ls : Array Slot} {rest : List Value} {z w : Int32} {t : FieldType} (ht : t = .boolean ∨ t = .byte ∨ t = .char ∨ t = .short) (hret : meth.sig.returnType = some t) (hd : decode c.code pc = .ok (.ireturn, 1)) (hz : nar t z = w) (hQ : Q (some (.int w)) T.heap locs) (h1 : cells ≤ kc) (h2 : slots ≤ ks) : OG p e below s Q kc ks T (mkF m pc Ls (.int z :: rest)) := by
  subst hz
  obtain ⟨fs, hr, hrun, hended, hW, hsame⟩ := X.leave (v := some (.int (nar t z))) (fun h => by rw [hret] at h; cases h) hlk
  exact ⟨_, _, retN X hx hret ht hd hr, hrun, hended, _, _, rfl, hQ, ⟨_, rfl⟩, hW, hsame.mono h1 h2⟩
theorem o_ret (X : Stand p l e R s m args below meth c T locs cells slots) (hx : p.tables.exec = Jvm.exec) (hlk : meth.locks = false) {pc : Nat} {Ls : Array Slot} (hret : meth.sig.returnType = none) (hd : decode c.code pc = .ok (.return_, 1)) (hQ : Q none T.heap locs) (h1 : cells ≤ kc) (h2 : slots ≤ ks) : OG p e below s Q kc ks T (mkF m pc Ls []) := by
  obtain ⟨fs, hr, hrun, hended, hW, hsame⟩ := X.leave (v := none) (fun _ => rfl) hlk
  exact ⟨_, _, X.returnOut hx hret hd hr, hrun, hended, _, _, rfl, hQ, ⟨_, rfl⟩, hW, hsame.mono h1 h2⟩
variable {Z : State} {a0 : Array Value} {h : Heap}
theorem o_callS (X : Stand p l e R s m args below meth c T locs cells slots) (hx : p.tables.exec = Jvm.exec) (hZ : Z.Warmed39 s.vm) {own : String} {index : Nat} {y : MethodName} {bytes : ByteArray} {maxL : Nat} {ret : Option FieldType} {rm : Room} {Qc : Option Value → Heap → List Loc → Prop} {argsL rest st : List Value} {pc pc' : Nat} {Ls : Array Slot} (W : Nat)
    (hown : s.vm.findClass own = some m.cls) (eT : T.heap = h) (hlink : (Cond.methodLink own index y).before a0 Z = true) (hstat : (Cond.static y).before a0 Z = true) (hinit : (Cond.initialized y.cls).before a0 Z = true) (hcode : (Cond.code y bytes maxL ret).before a0 Z = true) (hy : y.cls ≠ "java/lang/invoke/MethodHandle" ∧ y.cls ≠ "java/lang/invoke/VarHandle")
    (hM : MetFree l y (head1 [Cond.code y bytes maxL ret] rm) (fun a U => a = argsL.toArray ∧ Z.Warmed39 U.vm ∧ U.heap = h) (fun _ _ _ _ _ => True) (fun _ U o U' => ∃ v L, o = .returned v ∧ Qc v U'.heap L ∧ FrameEnd U o U' L rm.cells rm.slots)) (hf : rm.frames + 1 ≤ R.frames) (hl : W + (maxL + 11) + rm.locals ≤ R.locals)
    (hsize : Ls.size = c.maxLocals) (hlen : ∀ sig, parseMethodDescriptor y.desc = some sig → argsL.length = sig.parameters.length) (hs : st = argsL.reverse ++ rest) (hW : (rest.map fun v => v.category).sum ≤ W) (hd : decode c.code pc = .ok (.invokestatic index, 3)) (hp : pc + 3 = pc') (hc : cells + rm.cells ≤ R.cells) (hsl : slots + rm.slots ≤ R.slots)
    (k : ∀ v T' L, Stand p l e R s m args below meth c T' (locs ++ L) (cells + rm.cells) (slots + rm.slots) → Qc v T'.heap L → OG p e below s Q kc ks T' (mkF m pc' Ls (v.toList ++ rest))) : OG p e below s Q kc ks T (mkF m pc Ls st) := by
  subst hp hs
  obtain ⟨v, vm₁, ⟨T1, L1, c1, n1⟩, -, X1, ⟨Lc, hQ, l1, y1, z1⟩, st⟩ := Jvm.LawKit.callS X hx (y := y) hown (mvT hZ hlink) (mvT hZ hstat) (mvT hZ hinit) (mvT hZ hcode) hy (backOf (W := W) hM hZ hcode hinit hf hl) (g := mkF m pc Ls (argsL.reverse ++ rest)) rfl hsize (argsL := argsL) (rest := rest) hlen rfl (by show 2 * 0 + _ ≤ _; omega) hd (fun _ _ => ⟨rfl, eT, hc, hsl⟩)
  dsimp only [Pt.U, Pt.locs, Pt.cells, Pt.slots] at X1 l1 y1 z1 st hQ
  subst l1 y1 z1
  exact OG.step st (k v T1 Lc X1 hQ)
theorem o_special (X : Stand p l e R s m args below meth c T locs cells slots) (hx : p.tables.exec = Jvm.exec) (hZ : Z.Warmed39 s.vm) {own : String} {index : Nat} {y : MethodName} {bytes : ByteArray} {maxL : Nat} {rm : Room} {Qc : Option Value → Heap → List Loc → Prop} {a : Addr} {argsL rest st : List Value} {pc pc' : Nat} {Ls : Array Slot} (W : Nat) (hy1 : y.name = "<init>")
    (hown : s.vm.findClass own = some m.cls) (eT : T.heap = h) (hlink : (Cond.methodLink own index y).before a0 Z = true) (hinst : (Cond.instanceMethod y).before a0 Z = true) (hinit : (Cond.initialized y.cls).before a0 Z = true) (hcode : (Cond.code y bytes maxL none).before a0 Z = true) (hy : y.cls ≠ "java/lang/invoke/MethodHandle" ∧ y.cls ≠ "java/lang/invoke/VarHandle")
    (hM : MetFree l y (head1 [Cond.code y bytes maxL none] rm) (fun b U => b = (.ref a :: argsL).toArray ∧ Z.Warmed39 U.vm ∧ U.heap = h) (fun _ _ _ _ _ => True) (fun _ U o U' => ∃ v L, o = .returned v ∧ Qc v U'.heap L ∧ FrameEnd U o U' L rm.cells rm.slots)) (hf : rm.frames + 1 ≤ R.frames) (hl : W + (maxL + 11) + rm.locals ≤ R.locals)
    (hsize : Ls.size = c.maxLocals) (hlen : ∀ sig, parseMethodDescriptor y.desc = some sig → argsL.length = sig.parameters.length) (hs : st = argsL.reverse ++ .ref a :: rest) (hW : (rest.map fun v => v.category).sum ≤ W) (hd : decode c.code pc = .ok (.invokespecial index, 3)) (hp : pc + 3 = pc') (hc : cells + rm.cells ≤ R.cells) (hsl : slots + rm.slots ≤ R.slots)
    (k : ∀ v T' L, Stand p l e R s m args below meth c T' (locs ++ L) (cells + rm.cells) (slots + rm.slots) → Qc v T'.heap L → OG p e below s Q kc ks T' (mkF m pc' Ls (v.toList ++ rest))) : OG p e below s Q kc ks T (mkF m pc Ls st) := by
  subst hp hs
  obtain ⟨v, vm₁, ⟨T1, L1, c1, n1⟩, -, X1, ⟨Lc, hQ, l1, y1, z1⟩, st⟩ := X.specialBack hx (y := y) hy1 hown (mvT hZ hlink) (mvT hZ hinst) (mvT hZ hcode) hy (backOf (W := W) hM hZ hcode hinit hf hl) (g := mkF m pc Ls (argsL.reverse ++ .ref a :: rest)) rfl hsize (Steps.refl _) (a := a) (argsL := argsL) (rest := rest) hlen rfl (by show 2 * 0 + _ ≤ _; omega) hd (fun _ _ => ⟨rfl, eT, hc, hsl⟩)
  dsimp only [Pt.U, Pt.locs, Pt.cells, Pt.slots] at X1 l1 y1 z1 st hQ
  subst l1 y1 z1
  exact OG.step (fun t q => st.trans q) (k v T1 Lc X1 hQ)
theorem o_virtual (X : Stand p l e R s m args below meth c T locs cells slots) (hx : p.tables.exec = Jvm.exec) (hZ : Z.Warmed39 s.vm) {own C : String} {index : Nat} {y : MethodName} {bytes : ByteArray} {maxL : Nat} {ret : Option FieldType} {rm : Room} {Qc : Option Value → Heap → List Loc → Prop} {a : Addr} {argsL rest st : List Value} {pc pc' : Nat} {Ls : Array Slot} (W : Nat)
    (hown : s.vm.findClass own = some m.cls) (eT : T.heap = h) (hlink : (Cond.methodLink own index y).before a0 Z = true) (hdecl : (Cond.declares y).before a0 Z = true) (hsel : (Cond.selects C y y).before a0 Z = true) (hinst : (Cond.instanceMethod y).before a0 Z = true) (hinit : (Cond.initialized y.cls).before a0 Z = true) (hcode : (Cond.code y bytes maxL ret).before a0 Z = true) (hy : y.cls ≠ "java/lang/invoke/MethodHandle" ∧ y.cls ≠ "java/lang/invoke/VarHandle")
    (E : Exa Z h a C)
    (hM : MetFree l y (head1 [Cond.code y bytes maxL ret] rm) (fun b U => b = (.ref a :: argsL).toArray ∧ Z.Warmed39 U.vm ∧ U.heap = h) (fun _ _ _ _ _ => True) (fun _ U o U' => ∃ v L, o = .returned v ∧ Qc v U'.heap L ∧ FrameEnd U o U' L rm.cells rm.slots)) (hf : rm.frames + 1 ≤ R.frames) (hl : W + (maxL + 11) + rm.locals ≤ R.locals)
    (hsize : Ls.size = c.maxLocals) (hlen : ∀ sig, parseMethodDescriptor y.desc = some sig → argsL.length = sig.parameters.length) (hs : st = argsL.reverse ++ .ref a :: rest) (hW : (rest.map fun v => v.category).sum ≤ W) (hd : decode c.code pc = .ok (.invokevirtual index, 3)) (hp : pc + 3 = pc') (hc : cells + rm.cells ≤ R.cells) (hsl : slots + rm.slots ≤ R.slots)
    (k : ∀ v T' L, Stand p l e R s m args below meth c T' (locs ++ L) (cells + rm.cells) (slots + rm.slots) → Qc v T'.heap L → OG p e below s Q kc ks T' (mkF m pc' Ls (v.toList ++ rest))) : OG p e below s Q kc ks T (mkF m pc Ls st) := by
  subst hp hs
  obtain ⟨cq, kq, qa, qb, qc⟩ := isOf hZ eT E
  obtain ⟨v, vm₁, ⟨T1, L1, c1, n1⟩, -, X1, ⟨Lc, hQ, l1, y1, z1⟩, st⟩ := X.virtualBack hx (y := y) (z := y) hown (mvT hZ hlink) (mvT hZ hdecl) (notFace_of_selects (args := #[]) (mvT hZ hsel)) (mvT hZ hsel) (mvT hZ hinst) hy (backOf (W := W) hM hZ hcode hinit hf hl) qa qc (g := mkF m pc Ls (argsL.reverse ++ .ref a :: rest)) rfl hsize (Steps.refl _) (argsL := argsL) (rest := rest) hlen rfl (by show 2 * 0 + _ ≤ _; omega) hd (fun _ _ => ⟨rfl, eT, hc, hsl⟩)
  dsimp only [Pt.U, Pt.locs, Pt.cells, Pt.slots] at X1 l1 y1 z1 st hQ
  subst l1 y1 z1
  exact OG.step (fun t q => st.trans q) (k v T1 Lc X1 hQ)
theorem o_new (X : Stand p l e R s m args below meth c T locs cells slots) (hx : p.tables.exec = Jvm.exec) (hZ : Z.Warmed39 s.vm) {own C : String} {index n : Nat} {pc pc' : Nat} {Ls : Array Slot} {rest : List Value} (hown : s.vm.findClass own = some m.cls) (eT : T.heap = h) (w : (Cond.classLink own index C).before a0 Z = true) (wi : (Cond.instantiable C n).before a0 Z = true) (wz : (Cond.initialized C).before a0 Z = true) (hd : decode c.code pc = .ok (.new index, 3)) (hp : pc + 3 = pc') (hc : cells + 1 ≤ R.cells) (hl : slots + n ≤ R.slots)
    (k : ∀ T' h' a, Stand p l e R s m args below meth c T' locs (cells + 1) (slots + n) → T'.heap = h' → a = h.size → Ext h h' → Exa Z h' a C → (∀ {O nm d : String} {ty : FieldType}, Laid Z a0 C O nm d → parseFieldDescriptor d = some ty → Fld Z h' a O nm d (defaultValue ty)) → OG p e below s Q kc ks T' (mkF m pc' Ls (.ref a :: rest))) : OG p e below s Q kc ks T (mkF m pc Ls rest) := by
  subst hp
  obtain ⟨T2, h2, X2, e2, E2, A2, D2, -, st2⟩ := newO X hx hZ hown w wi wz eT (g := mkF m pc Ls rest) rfl hd hc hl
  exact OG.step st2 (k T2 h2 _ X2 e2 rfl E2 A2 D2)
theorem o_getF (X : Stand p l e R s m args below meth c T locs cells slots) (hx : p.tables.exec = Jvm.exec) (hZ : Z.Warmed39 s.vm) {own R0 O n d : String} {index : Nat} {a : Addr} {v : Value} {pc pc' : Nat} {Ls : Array Slot} {rest : List Value} (hown : s.vm.findClass own = some m.cls) (eT : T.heap = h) (w : (Cond.fieldLink own index R0 n d).before a0 Z = true) (via : Via Z R0 O n d) (F : Fld Z h a O n d v) (hd : decode c.code pc = .ok (.getfield index, 3)) (hp : pc + 3 = pc')
    (k : ∀ T', Stand p l e R s m args below meth c T' locs cells slots → T'.heap = h → OG p e below s Q kc ks T' (mkF m pc' Ls (v :: rest))) : OG p e below s Q kc ks T (mkF m pc Ls (.ref a :: rest)) := by
  subst hp
  obtain ⟨T1, X1, e1, st1⟩ := getF X hx hZ hown (host := "") (Or.inl w) via eT F (g := mkF m pc Ls (.ref a :: rest)) rfl rfl hd
  exact OG.step st1 (k T1 X1 e1)
theorem o_putF (X : Stand p l e R s m args below meth c T locs cells slots) (hx : p.tables.exec = Jvm.exec) (hZ : Z.Warmed39 s.vm) {own R0 O n d C : String} {index kk : Nat} {ty : FieldType} {a : Addr} {v old : Value} {pc pc' : Nat} {Ls : Array Slot} {rest : List Value} (hown : s.vm.findClass own = some m.cls) (eT : T.heap = h) (w : (Cond.fieldLink own index R0 n d).before a0 Z = true) (via : Via Z R0 O n d) (F : Fld Z h a O n d old) (E : Exa Z h a C)
    (L : (Cond.lays C O n d).before a0 Z = true ∨ ((Cond.laysFinal C O n d).before a0 Z = true ∧ own = O ∧ meth.name = "<init>")) (wi : (Cond.instantiable C kk).before a0 Z = true) (hty : parseFieldDescriptor d = some ty) (hn : narrow ty v = v) (hf : fits ty v = true) (hd : decode c.code pc = .ok (.putfield index, 3)) (hp : pc + 3 = pc')
    (k : ∀ T' h', Stand p l e R s m args below meth c T' (locs ++ [⟨a, RoadKit.slotOf Z O n d⟩]) cells slots → T'.heap = h' → Wr h h' a (RoadKit.slotOf Z O n d) v → OG p e below s Q kc ks T' (mkF m pc' Ls rest)) : OG p e below s Q kc ks T (mkF m pc Ls (v :: .ref a :: rest)) := by
  subst hp
  obtain ⟨T1, h1, X1, e1, W1, st1⟩ := putF X hx hZ hown (host := "") (Or.inl w) via eT F E L wi hty hn hf (g := mkF m pc Ls (v :: .ref a :: rest)) rfl rfl hd
  exact OG.step st1 (k T1 h1 X1 e1 W1)
theorem z_tlt {x : Int32} (h : x < 0) : ifCond.holds .lt x = true ∧ ifCond.holds .ge x = false := ⟨(if0 _ _).trans (tlt h).1, (if0 _ _).trans (tlt h).2.1⟩
theorem z_flt {x : Int32} (h : ¬ x < 0) : ifCond.holds .lt x = false ∧ ifCond.holds .ge x = true := ⟨(if0 _ _).trans (flt h).1, (if0 _ _).trans (flt h).2.1⟩
theorem z_tgt {x : Int32} (h : 0 < x) : ifCond.holds .gt x = true ∧ ifCond.holds .le x = false := ⟨(if0 _ _).trans (tlt h).2.2.1, (if0 _ _).trans (tlt h).2.2.2⟩
theorem z_fgt {x : Int32} (h : ¬ 0 < x) : ifCond.holds .gt x = false ∧ ifCond.holds .le x = true := ⟨(if0 _ _).trans (flt h).2.2.1, (if0 _ _).trans (flt h).2.2.2⟩
theorem z_teq {x : Int32} (h : x = 0) : ifCond.holds .eq x = true ∧ ifCond.holds .ne x = false := ⟨(if0 _ _).trans (teq h).1, (if0 _ _).trans (teq h).2⟩
theorem z_feq {x : Int32} (h : ¬ x = 0) : ifCond.holds .eq x = false ∧ ifCond.holds .ne x = true := ⟨(if0 _ _).trans (feq h).1, (if0 _ _).trans (feq h).2⟩
theorem c_tlt {x y : Int32} (h : x < y) : if_icmp.holds .lt x y = true ∧ if_icmp.holds .ge x y = false := ⟨(tlt h).1, (tlt h).2.1⟩
theorem c_flt {x y : Int32} (h : ¬ x < y) : if_icmp.holds .lt x y = false ∧ if_icmp.holds .ge x y = true := ⟨(flt h).1, (flt h).2.1⟩
theorem c_tgt {x y : Int32} (h : y < x) : if_icmp.holds .gt x y = true ∧ if_icmp.holds .le x y = false := ⟨(tlt h).2.2.1, (tlt h).2.2.2⟩
theorem c_fgt {x y : Int32} (h : ¬ y < x) : if_icmp.holds .gt x y = false ∧ if_icmp.holds .le x y = true := ⟨(flt h).2.2.1, (flt h).2.2.2⟩
theorem c_teq {x y : Int32} (h : x = y) : if_icmp.holds .eq x y = true ∧ if_icmp.holds .ne x y = false := teq h
theorem c_feq {x y : Int32} (h : ¬ x = y) : if_icmp.holds .eq x y = false ∧ if_icmp.holds .ne x y = true := feq h
theorem l_tlt {x y : Int64} (h : x < y) : ifCond.holds .lt (lcmpW x y) = true ∧ ifCond.holds .ge (lcmpW x y) = false := z_tlt ((lw_lt x y).mpr h)
theorem l_flt {x y : Int64} (h : ¬ x < y) : ifCond.holds .lt (lcmpW x y) = false ∧ ifCond.holds .ge (lcmpW x y) = true := z_flt (fun q => h ((lw_lt x y).mp q))
theorem l_tgt {x y : Int64} (h : y < x) : ifCond.holds .gt (lcmpW x y) = true ∧ ifCond.holds .le (lcmpW x y) = false := z_tgt ((lw_gt x y).mpr h)
theorem l_fgt {x y : Int64} (h : ¬ y < x) : ifCond.holds .gt (lcmpW x y) = false ∧ ifCond.holds .le (lcmpW x y) = true := z_fgt (fun q => h ((lw_gt x y).mp q))
theorem l_teq {x y : Int64} (h : x = y) : ifCond.holds .eq (lcmpW x y) = true ∧ ifCond.holds .ne (lcmpW x y) = false := z_teq ((lw_eq x y).mpr h)
theorem l_feq {x y : Int64} (h : ¬ x = y) : ifCond.holds .eq (lcmpW x y) = false ∧ ifCond.holds .ne (lcmpW x y) = true := z_feq (fun q => h ((lw_eq x y).mp q))
end Own
section OwnA
variable {p : Program} {l : Launch} {e : Env} {R : Room} {s : State} {m : MethodId} {args : Array Value} {below : List Frame} {meth : Method} {c : Code} {T : State} {locs : List Loc} {cells slots : Nat} {Q : Option Value → Heap → List Loc → Prop} {kc ks : Nat} {Z : State} {a0 : Array Value} {h h' : Heap} {a b : Addr} {ty : FieldType} {n : Nat} {f : Nat → Value}
/-- an array of n values: the i-th is f i -/
def OAr (Z : State) (h : Heap) (a : Addr) (ty : FieldType) (n : Nat) (f : Nat → Value) : Prop := ∃ c : Cell, Arr Z h a c ty ∧ c.slots.size = n ∧ ∀ i, i < n → c.slots[i]? = some (f i)
theorem OAr.ext (E : Ext h h') (F : OAr Z h b ty n f) : OAr Z h' b ty n f := by obtain ⟨c, A, r⟩ := F; exact ⟨c, A.ext E, r⟩
theorem OAr.other {sl : Nat} {v : Value} (W : Wr h h' a sl v) (F : OAr Z h b ty n f) (q : b ≠ a) : OAr Z h' b ty n f := by obtain ⟨c, A, r⟩ := F; exact ⟨c, A.other W q, r⟩
theorem OAr.keep {ws : List Addr} (F : OAr Z h b ty n f) (K : Keep h h' ws) (q : b ∉ ws) : OAr Z h' b ty n f := by obtain ⟨c, A, r⟩ := F; exact ⟨c, ⟨K.2.1 b c A.1 q, A.2⟩, r⟩
theorem OAr.lt (F : OAr Z h a ty n f) : a < h.size := by obtain ⟨c, A, -⟩ := F; exact A.lt
theorem OAr.cg {g : Nat → Value} (F : OAr Z h a ty n f) (q : ∀ i, i < n → g i = f i) : OAr Z h a ty n g := by obtain ⟨c, A, r, H⟩ := F; exact ⟨c, A, r, fun i hi => by rw [q i hi]; exact H i hi⟩
theorem OAr.same {j : Nat} {v : Value} (W : Wr h h' a j v) (F : OAr Z h a ty n f) : OAr Z h' a ty n (fun i => if i = j then v else f i) := by
  obtain ⟨c, A, r, H⟩ := F
  refine ⟨_, Arr.same W A, by simp [Cell.setSlot, r], fun i hi => ?_⟩
  obtain ⟨c', h1, -, h3, -⟩ := W
  have hlt : j < c.slots.size := by have := h1.symm.trans A.1; cases this; exact h3
  simp only [Cell.setSlot]
  rw [Array.getElem?_setIfInBounds]
  by_cases q : j = i
  · subst q; simp [hlt]
  · rw [if_neg q, if_neg (fun z => q z.symm)]; exact H i hi
theorem OAr.new {k : ClassId} {z : Int32} (A : Arr Z h a (newA k ty z) ty) : OAr Z h a ty z.toNatClampNeg (fun _ => defaultValue ty) :=
  ⟨_, A, sz_new _ _ _, fun i hi => by simp [newA, hi]⟩
/-- the first values by a list -/
def lk (vs : List Value) (k : Nat) : Value := vs.getD k .null
theorem OAr.setL {vs : List Value} {j : Nat} {v : Value} (W : Wr h h' a j v) (F : OAr Z h a ty n (lk vs)) (hj : j < vs.length) : OAr Z h' a ty n (lk (vs.set j v)) :=
  (OAr.same W F).cg fun i hi => by
    unfold lk
    by_cases q : i = j
    · subst q; simp [hj]
    · simp only [List.getD_eq_getElem?_getD, List.getElem?_set, if_neg q, if_neg (fun z : j = i => q z.symm)]
theorem o_alen (X : Stand p l e R s m args below meth c T locs cells slots) (hx : p.tables.exec = Jvm.exec) (hZ : Z.Warmed39 s.vm) {pc pc' : Nat} {Ls : Array Slot} {rest : List Value} (eT : T.heap = h) (F : OAr Z h a ty n f) (hd : decode c.code pc = .ok (.arraylength, 1)) (z : Int32) (hz : n.toInt32 = z) (hp : pc + 1 = pc') (k : OG p e below s Q kc ks T (mkF m pc' Ls (.int z :: rest))) : OG p e below s Q kc ks T (mkF m pc Ls (.ref a :: rest)) := by
  subst hp hz
  obtain ⟨cl, A, r, H⟩ := F
  exact OG.step (fun t q => X.arraylength hx (by rw [eT]; exact A.1) (State.isArrayOf_alike hZ.alike A.2.1) (g := mkF m pc Ls (.ref a :: rest)) rfl rfl hd t (by rw [r]; exact q)) k
theorem o_newarr (X : Stand p l e R s m args below meth c T locs cells slots) (hx : p.tables.exec = Jvm.exec) (hZ : Z.Warmed39 s.vm) {pc pc' : Nat} {Ls : Array Slot} {rest : List Value} {aty : ArrayType} {z : Int32} (eT : T.heap = h) (w : (Cond.arrayClass (newarray.typeOf aty)).before a0 Z = true) (hd : decode c.code pc = .ok (.newarray aty, 2)) (hn : ¬ z < 0) (cap : Nat) (hcap : z.toNatClampNeg ≤ cap) (hb : cap * 8 ≤ 536870912) (hc : cells + 1 ≤ R.cells) (hl : slots + cap ≤ R.slots) (hp : pc + 2 = pc')
    (k : ∀ T' h' a, Stand p l e R s m args below meth c T' locs (cells + 1) (slots + cap) → T'.heap = h' → a = h.size → Ext h h' → OAr Z h' a (newarray.typeOf aty) z.toNatClampNeg (fun _ => defaultValue (newarray.typeOf aty)) → OG p e below s Q kc ks T' (mkF m pc' Ls (.ref a :: rest))) : OG p e below s Q kc ks T (mkF m pc Ls (.int z :: rest)) := by
  subst hp
  obtain ⟨T1, h1, cA, X1, e1, E1, A1, st1⟩ := newP X hx hZ w eT (g := mkF m pc Ls (.int z :: rest)) rfl hd rfl hn hcap hb hc hl
  exact OG.step st1 (k T1 h1 _ X1 e1 rfl E1 (OAr.new A1))
theorem o_inb {cl : Cell} {j : Int32} (r : cl.slots.size = n) (hj : ¬ j < 0) (hlt : j.toNatClampNeg < n) : ¬ (j < 0 ∨ cl.slots.size ≤ j.toNatClampNeg) := by
  rintro (q | q)
  · exact hj q
  · omega
theorem o_iaload (X : Stand p l e R s m args below meth c T locs cells slots) (hx : p.tables.exec = Jvm.exec) (hZ : Z.Warmed39 s.vm) {pc pc' : Nat} {Ls : Array Slot} {rest : List Value} {j : Int32} (eT : T.heap = h) (F : OAr Z h a .int n f) (hd : decode c.code pc = .ok (.iaload, 1)) (hj : ¬ j < 0) (hlt : j.toNatClampNeg < n) (x : Int32) (hv : f j.toNatClampNeg = .int x) (hp : pc + 1 = pc') (k : OG p e below s Q kc ks T (mkF m pc' Ls (.int x :: rest))) : OG p e below s Q kc ks T (mkF m pc Ls (.int j :: .ref a :: rest)) := by
  subst hp
  obtain ⟨cl, A, r, H⟩ := F
  exact OG.step (fun t q => X.iaload hx (j := j) (v := .int x) (by rw [eT]; exact A.1) (State.isArrayOf_alike hZ.alike A.2.1) A.2.2 (o_inb r hj hlt) (by rw [H _ hlt, hv]) (g := mkF m pc Ls (.int j :: .ref a :: rest)) rfl rfl hd t q) k
theorem o_laload (X : Stand p l e R s m args below meth c T locs cells slots) (hx : p.tables.exec = Jvm.exec) (hZ : Z.Warmed39 s.vm) {pc pc' : Nat} {Ls : Array Slot} {rest : List Value} {j : Int32} (eT : T.heap = h) (F : OAr Z h a .long n f) (hd : decode c.code pc = .ok (.laload, 1)) (hj : ¬ j < 0) (hlt : j.toNatClampNeg < n) (x : Int64) (hv : f j.toNatClampNeg = .long x) (hp : pc + 1 = pc') (k : OG p e below s Q kc ks T (mkF m pc' Ls (.long x :: rest))) : OG p e below s Q kc ks T (mkF m pc Ls (.int j :: .ref a :: rest)) := by
  subst hp
  obtain ⟨cl, A, r, H⟩ := F
  exact OG.step (fun t q => X.laload hx (j := j) (v := .long x) (by rw [eT]; exact A.1) (State.isArrayOf_alike hZ.alike A.2.1) A.2.2 (o_inb r hj hlt) (by rw [H _ hlt, hv]) (g := mkF m pc Ls (.int j :: .ref a :: rest)) rfl rfl hd t q) k
theorem o_caload (X : Stand p l e R s m args below meth c T locs cells slots) (hx : p.tables.exec = Jvm.exec) (hZ : Z.Warmed39 s.vm) {pc pc' : Nat} {Ls : Array Slot} {rest : List Value} {j : Int32} (eT : T.heap = h) (F : OAr Z h a .char n f) (hd : decode c.code pc = .ok (.caload, 1)) (hj : ¬ j < 0) (hlt : j.toNatClampNeg < n) (x : Int32) (hv : f j.toNatClampNeg = .int x) (hp : pc + 1 = pc') (k : OG p e below s Q kc ks T (mkF m pc' Ls (.int x :: rest))) : OG p e below s Q kc ks T (mkF m pc Ls (.int j :: .ref a :: rest)) := by
  subst hp
  obtain ⟨cl, A, r, H⟩ := F
  exact OG.step (fun t q => X.caload hx (j := j) (v := .int x) (by rw [eT]; exact A.1) (State.isArrayOf_alike hZ.alike A.2.1) A.2.2 (o_inb r hj hlt) (by rw [H _ hlt, hv]) (g := mkF m pc Ls (.int j :: .ref a :: rest)) rfl rfl hd t q) k
theorem o_baload (X : Stand p l e R s m args below meth c T locs cells slots) (hx : p.tables.exec = Jvm.exec) (hZ : Z.Warmed39 s.vm) {pc pc' : Nat} {Ls : Array Slot} {rest : List Value} {j : Int32} (eT : T.heap = h) (F : OAr Z h a .byte n f) (hd : decode c.code pc = .ok (.baload, 1)) (hj : ¬ j < 0) (hlt : j.toNatClampNeg < n) (x : Int32) (hv : f j.toNatClampNeg = .int x) (hp : pc + 1 = pc') (k : OG p e below s Q kc ks T (mkF m pc' Ls (.int x :: rest))) : OG p e below s Q kc ks T (mkF m pc Ls (.int j :: .ref a :: rest)) := by
  subst hp
  obtain ⟨cl, A, r, H⟩ := F
  exact OG.step (fun t q => X.baloadBytes hx (j := j) (v := .int x) (by rw [eT]; exact A.1) (State.isArrayOf_alike hZ.alike A.2.1) A.2.2 (o_inb r hj hlt) (by rw [H _ hlt, hv]) (g := mkF m pc Ls (.int j :: .ref a :: rest)) rfl rfl hd t q) k
theorem o_iastore (X : Stand p l e R s m args below meth c T locs cells slots) (hx : p.tables.exec = Jvm.exec) (hZ : Z.Warmed39 s.vm) {pc pc' : Nat} {Ls : Array Slot} {rest : List Value} {j : Int32} {x : Int32} (eT : T.heap = h) (F : OAr Z h a .int n f) (hd : decode c.code pc = .ok (.iastore, 1)) (hj : ¬ j < 0) (hlt : j.toNatClampNeg < n) (hp : pc + 1 = pc')
    (k : ∀ T' h', Stand p l e R s m args below meth c T' (locs ++ [⟨a, j.toNatClampNeg⟩]) cells slots → T'.heap = h' → Wr h h' a j.toNatClampNeg (.int x) → OG p e below s Q kc ks T' (mkF m pc' Ls rest)) : OG p e below s Q kc ks T (mkF m pc Ls (.int x :: .int j :: .ref a :: rest)) := by
  subst hp
  obtain ⟨cl, A, r, H⟩ := F
  obtain ⟨T1, h1, X1, e1, W1, st1⟩ := stI X hx hZ eT A (o_inb r hj hlt) (g := mkF m pc Ls (.int x :: .int j :: .ref a :: rest)) rfl rfl hd
  exact OG.step st1 (k T1 h1 X1 e1 W1)
theorem o_lastore (X : Stand p l e R s m args below meth c T locs cells slots) (hx : p.tables.exec = Jvm.exec) (hZ : Z.Warmed39 s.vm) {pc pc' : Nat} {Ls : Array Slot} {rest : List Value} {j : Int32} {x : Int64} (eT : T.heap = h) (F : OAr Z h a .long n f) (hd : decode c.code pc = .ok (.lastore, 1)) (hj : ¬ j < 0) (hlt : j.toNatClampNeg < n) (hp : pc + 1 = pc')
    (k : ∀ T' h', Stand p l e R s m args below meth c T' (locs ++ [⟨a, j.toNatClampNeg⟩]) cells slots → T'.heap = h' → Wr h h' a j.toNatClampNeg (.long x) → OG p e below s Q kc ks T' (mkF m pc' Ls rest)) : OG p e below s Q kc ks T (mkF m pc Ls (.long x :: .int j :: .ref a :: rest)) := by
  subst hp
  obtain ⟨cl, A, r, H⟩ := F
  obtain ⟨T1, h1, X1, e1, W1, st1⟩ := stJ X hx hZ eT A (o_inb r hj hlt) (g := mkF m pc Ls (.long x :: .int j :: .ref a :: rest)) rfl rfl hd
  exact OG.step st1 (k T1 h1 X1 e1 W1)
theorem o_castore (X : Stand p l e R s m args below meth c T locs cells slots) (hx : p.tables.exec = Jvm.exec) (hZ : Z.Warmed39 s.vm) {pc pc' : Nat} {Ls : Array Slot} {rest : List Value} {j : Int32} {x : Int32} (eT : T.heap = h) (F : OAr Z h a .char n f) (hd : decode c.code pc = .ok (.castore, 1)) (hj : ¬ j < 0) (hlt : j.toNatClampNeg < n) (hp : pc + 1 = pc')
    (k : ∀ T' h', Stand p l e R s m args below meth c T' (locs ++ [⟨a, j.toNatClampNeg⟩]) cells slots → T'.heap = h' → Wr h h' a j.toNatClampNeg (.int (nar .char x)) → OG p e below s Q kc ks T' (mkF m pc' Ls rest)) : OG p e below s Q kc ks T (mkF m pc Ls (.int x :: .int j :: .ref a :: rest)) := by
  subst hp
  obtain ⟨cl, A, r, H⟩ := F
  obtain ⟨T1, h1, X1, e1, W1, st1⟩ := stC X hx hZ eT A (o_inb r hj hlt) (g := mkF m pc Ls (.int x :: .int j :: .ref a :: rest)) rfl rfl hd
  exact OG.step st1 (k T1 h1 X1 e1 W1)
theorem o_bastore (X : Stand p l e R s m args below meth c T locs cells slots) (hx : p.tables.exec = Jvm.exec) (hZ : Z.Warmed39 s.vm) {pc pc' : Nat} {Ls : Array Slot} {rest : List Value} {j : Int32} {x : Int32} (eT : T.heap = h) (F : OAr Z h a .byte n f) (hd : decode c.code pc = .ok (.bastore, 1)) (hj : ¬ j < 0) (hlt : j.toNatClampNeg < n) (hp : pc + 1 = pc')
    (k : ∀ T' h', Stand p l e R s m args below meth c T' (locs ++ [⟨a, j.toNatClampNeg⟩]) cells slots → T'.heap = h' → Wr h h' a j.toNatClampNeg (.int (nar .byte x)) → OG p e below s Q kc ks T' (mkF m pc' Ls rest)) : OG p e below s Q kc ks T (mkF m pc Ls (.int x :: .int j :: .ref a :: rest)) := by
  subst hp
  obtain ⟨cl, A, r, H⟩ := F
  obtain ⟨T1, h1, X1, e1, W1, st1⟩ := stB X hx hZ eT A (o_inb r hj hlt) (g := mkF m pc Ls (.int x :: .int j :: .ref a :: rest)) rfl rfl hd
  exact OG.step st1 (k T1 h1 X1 e1 W1)
theorem o_private (X : Stand p l e R s m args below meth c T locs cells slots) (hx : p.tables.exec = Jvm.exec) (hZ : Z.Warmed39 s.vm) {own : String} {index kk : Nat} {y : MethodName} {bytes : ByteArray} {maxL : Nat} {ret : Option FieldType} {rm : Room} {Qc : Option Value → Heap → List Loc → Prop} {argsL rest st : List Value} {pc pc' : Nat} {Ls : Array Slot} (W : Nat)
    (hown : s.vm.findClass own = some m.cls) (eT : T.heap = h) (hlink : (Cond.methodLink own index y).before a0 Z = true) (hinst : (Cond.instanceMethod y).before a0 Z = true) (hpriv : (Cond.privateMethod y).before a0 Z = true) (wi : (Cond.instantiable y.cls kk).before a0 Z = true) (hinit : (Cond.initialized y.cls).before a0 Z = true) (hcode : (Cond.code y bytes maxL ret).before a0 Z = true) (hy : y.cls ≠ "java/lang/invoke/MethodHandle" ∧ y.cls ≠ "java/lang/invoke/VarHandle")
    (E : Exa Z h a y.cls)
    (hM : MetFree l y (head1 [Cond.code y bytes maxL ret] rm) (fun b U => b = (.ref a :: argsL).toArray ∧ Z.Warmed39 U.vm ∧ U.heap = h) (fun _ _ _ _ _ => True) (fun _ U o U' => ∃ v L, o = .returned v ∧ Qc v U'.heap L ∧ FrameEnd U o U' L rm.cells rm.slots)) (hf : rm.frames + 1 ≤ R.frames) (hl : W + (maxL + 11) + rm.locals ≤ R.locals)
    (hsize : Ls.size = c.maxLocals) (hlen : ∀ sig, parseMethodDescriptor y.desc = some sig → argsL.length = sig.parameters.length) (hs : st = argsL.reverse ++ .ref a :: rest) (hW : (rest.map fun v => v.category).sum ≤ W) (hd : decode c.code pc = .ok (.invokevirtual index, 3)) (hp : pc + 3 = pc') (hc : cells + rm.cells ≤ R.cells) (hsl : slots + rm.slots ≤ R.slots)
    (k : ∀ v T' L, Stand p l e R s m args below meth c T' (locs ++ L) (cells + rm.cells) (slots + rm.slots) → Qc v T'.heap L → OG p e below s Q kc ks T' (mkF m pc' Ls (v.toList ++ rest))) : OG p e below s Q kc ks T (mkF m pc Ls st) := by
  subst hp hs
  obtain ⟨cq, q1, q2⟩ := E.cell
  have hpa := Cond.privateMethod_at (mvP hZ hpriv (args := args))
  obtain ⟨cI, kI, i1, i2, -, i4, -⟩ := Cond.instantiable_spec (mvT hZ wi : (Cond.instantiable y.cls kk).before args s = true)
  have hni : kI.isInterface = false := (Bool.or_eq_false_iff.mp i4).1
  have hsel := selects_self_of_private (args := args) i1 i2 hni hpa (mvT hZ hinst) hy
  obtain ⟨v, vm₁, ⟨T1, L1, c1, n1⟩, -, X1, ⟨Lc, hQ, l1, y1, z1⟩, st⟩ := X.privateBack hx (y := y) hown (mvT hZ hlink) (mvT hZ hinst) hsel hpa (mvT hZ hcode) hy (backOf (W := W) hM hZ hcode hinit hf hl) (g := mkF m pc Ls (argsL.reverse ++ .ref a :: rest)) rfl hsize (Steps.refl _) (a := a) (by rw [eT]; exact q1) q2 (argsL := argsL) (rest := rest) hlen rfl (by show 2 * 0 + _ ≤ _; omega) hd (fun _ _ => ⟨rfl, eT, hc, hsl⟩)
  dsimp only [Pt.U, Pt.locs, Pt.cells, Pt.slots] at X1 l1 y1 z1 st hQ
  subst l1 y1 z1
  exact OG.step (fun t q => st.trans q) (k v T1 Lc X1 hQ)
end OwnA
section OwnB
def ci (c : Nat → Int32) : Nat → Value := fun i => .int (c i)
def cj (c : Nat → Int64) : Nat → Value := fun i => .long (c i)
def li (vs : List Int32) (i : Nat) : Int32 := vs.getD i 0
def upd (c : Nat → Int32) (j : Nat) (x : Int32) : Nat → Int32 := fun i => if i = j then x else c i
def updJ (c : Nat → Int64) (j : Nat) (x : Int64) : Nat → Int64 := fun i => if i = j then x else c i
variable {Z : State} {h h' : Heap} {a : Addr} {ty : FieldType} {n : Nat}
theorem OAr.setI {vs : List Int32} {j : Nat} {x : Int32} (W : Wr h h' a j (.int x)) (F : OAr Z h a ty n (ci (li vs))) (hj : j < vs.length) : OAr Z h' a ty n (ci (li (vs.set j x))) :=
  (OAr.same W F).cg fun i hi => by
    unfold ci li
    by_cases q : i = j
    · subst q; simp [hj]
    · simp only [List.getD_eq_getElem?_getD, List.getElem?_set, if_neg q, if_neg (fun z : j = i => q z.symm)]
theorem OAr.updI {c : Nat → Int32} {j : Nat} {x : Int32} (W : Wr h h' a j (.int x)) (F : OAr Z h a ty n (ci c)) : OAr Z h' a ty n (ci (upd c j x)) :=
  (OAr.same W F).cg fun i hi => by unfold ci upd; split <;> rfl
theorem OAr.updJ {c : Nat → Int64} {j : Nat} {x : Int64} (W : Wr h h' a j (.long x)) (F : OAr Z h a ty n (cj c)) : OAr Z h' a ty n (cj (updJ c j x)) :=
  (OAr.same W F).cg fun i hi => by unfold cj Jvm.Pilot.@@N@@.updJ; split <;> rfl
theorem OAr.zeros {k : Nat} (F : OAr Z h a ty n (fun _ => .int 0)) : OAr Z h a ty n (ci (li (List.replicate k 0))) :=
  F.cg fun i hi => by unfold ci li; by_cases q : i < k <;> simp [q]
theorem own_back {z : Int32} (q : ¬ z < 0) : z.toNatClampNeg.toInt32 = z := (back32 q).1
end OwnB

theorem d1_0 : decode prog_53_method_2_code 0 = .ok (.iload_n 3, 1) := by decide +kernel
theorem d1_1 : decode prog_53_method_2_code 1 = .ok (.istore 4, 2) := by decide +kernel
theorem d1_3 : decode prog_53_method_2_code 3 = .ok (.lload_n 0, 1) := by decide +kernel
theorem d1_4 : decode prog_53_method_2_code 4 = .ok (.lstore 5, 2) := by decide +kernel
theorem d1_6 : decode prog_53_method_2_code 6 = .ok (.lload 5, 2) := by decide +kernel
theorem d1_8 : decode prog_53_method_2_code 8 = .ok (.ldc2_w 11, 3) := by decide +kernel
theorem d1_11 : decode prog_53_method_2_code 11 = .ok (.lcmp, 1) := by decide +kernel
theorem d1_12 : decode prog_53_method_2_code 12 = .ok (.ifCond .lt 32, 3) := by decide +kernel
theorem d1_44 : decode prog_53_method_2_code 44 = .ok (.aload_n 2, 1) := by decide +kernel
theorem d1_45 : decode prog_53_method_2_code 45 = .ok (.iload 4, 2) := by decide +kernel
theorem d1_47 : decode prog_53_method_2_code 47 = .ok (.iinc 4 1, 3) := by decide +kernel
theorem d1_50 : decode prog_53_method_2_code 50 = .ok (.lload 5, 2) := by decide +kernel
theorem d1_52 : decode prog_53_method_2_code 52 = .ok (.l2i, 1) := by decide +kernel
theorem d1_53 : decode prog_53_method_2_code 53 = .ok (.i2b, 1) := by decide +kernel
theorem d1_54 : decode prog_53_method_2_code 54 = .ok (.bastore, 1) := by decide +kernel
theorem d1_55 : decode prog_53_method_2_code 55 = .ok (.iload 4, 2) := by decide +kernel
theorem d1_57 : decode prog_53_method_2_code 57 = .ok (.ireturn, 1) := by decide +kernel
theorem d1_15 : decode prog_53_method_2_code 15 = .ok (.aload_n 2, 1) := by decide +kernel
theorem d1_16 : decode prog_53_method_2_code 16 = .ok (.iload 4, 2) := by decide +kernel
theorem d1_18 : decode prog_53_method_2_code 18 = .ok (.iinc 4 1, 3) := by decide +kernel
theorem d1_21 : decode prog_53_method_2_code 21 = .ok (.lload 5, 2) := by decide +kernel
theorem d1_23 : decode prog_53_method_2_code 23 = .ok (.ldc2_w 13, 3) := by decide +kernel
theorem d1_26 : decode prog_53_method_2_code 26 = .ok (.land, 1) := by decide +kernel
theorem d1_27 : decode prog_53_method_2_code 27 = .ok (.ldc2_w 11, 3) := by decide +kernel
theorem d1_30 : decode prog_53_method_2_code 30 = .ok (.lor, 1) := by decide +kernel
theorem d1_31 : decode prog_53_method_2_code 31 = .ok (.l2i, 1) := by decide +kernel
theorem d1_32 : decode prog_53_method_2_code 32 = .ok (.i2b, 1) := by decide +kernel
theorem d1_33 : decode prog_53_method_2_code 33 = .ok (.bastore, 1) := by decide +kernel
theorem d1_34 : decode prog_53_method_2_code 34 = .ok (.lload 5, 2) := by decide +kernel
theorem d1_36 : decode prog_53_method_2_code 36 = .ok (.bipush 7, 2) := by decide +kernel
theorem d1_38 : decode prog_53_method_2_code 38 = .ok (.lushr, 1) := by decide +kernel
theorem d1_39 : decode prog_53_method_2_code 39 = .ok (.lstore 5, 2) := by decide +kernel
theorem d1_41 : decode prog_53_method_2_code 41 = .ok (.goto (-35), 3) := by decide +kernel
def f1_6 : Nat → (Nat → Int32) → Nat → Int32 → Int64 → Option (Int32 × (Nat → Int32))
  | 0, _, _, _, _ => none
  | k + 1, c_o2, n_o2, x4, x5 => (if x5 < (128 : Int64) then (if (¬ (x4 < 0) ∧ Int32.toNatClampNeg x4 < n_o2) then (some ((x4 + (1 : Int32)), (upd c_o2 (Int32.toNatClampNeg x4) (nar .byte ((x5.toInt32).toInt8.toInt32))))) else none) else (if (¬ (x4 < 0) ∧ Int32.toNatClampNeg x4 < n_o2) then (f1_6 k (upd c_o2 (Int32.toNatClampNeg x4) (nar .byte ((((x5 &&& (127 : Int64)) ||| (128 : Int64)).toInt32).toInt8.toInt32))) n_o2 (x4 + (1 : Int32)) ((x5.toUInt64 >>> ((7 : Int32) &&& 0x3f).toInt64.toUInt64).toInt64)) else none))
set_option maxRecDepth 65536 in
set_option maxHeartbeats 40000000 in
theorem b1_6 {p : Program} {l : Launch} {e : Env} {s : State} {m : MethodId} {args : Array Value} {below : List Frame} {meth : Method} {c : Code} {Z : State} {a0 : Array Value} {h0 : Heap} {n0 : Nat} (hx : p.tables.exec = Jvm.exec) (hZ : Z.Warmed39 s.vm) (hw : ∀ d ∈ tables_1, d.before a0 Z = true) (hby : c.code = prog_53_method_2_code) (hml : c.maxLocals = 7) (hown : s.vm.findClass "com/example/libtreegram/libtreegram/io/Leb128" = some m.cls) (hnm : meth.name = "put") (hret : meth.sig.returnType = some .int) (hlk : meth.locks = false) (o2 : Addr) : ∀ (k : Nat) {T : State} {locs : List Loc} {h : Heap} (c_o2 : Nat → Int32) (n_o2 : Nat) (d0 : Int64) (d3 : Int32) (x4 : Int32) (x5 : Int64) (r : Int32 × (Nat → Int32)) (X : Stand p l e ({ frames := 0, cells := 0, slots := 0, locals := 0 } : Room) s m args below meth c T locs 0 0) (eT : T.heap = h) (N : Fr n0 locs) (hsz : n0 ≤ h.size) (K : Keep h0 h [o2]) (A_o2 : OAr Z h o2 .byte n_o2 (ci c_o2)) (g_o2 : n0 ≤ o2) (hr : f1_6 k c_o2 n_o2 x4 x5 = some r),
    OG p e below s (fun v h L => v = (some (.int r.1)) ∧ Fr n0 L ∧ Keep h0 h [o2] ∧ OAr Z h o2 .byte n_o2 (ci r.2)) 0 0 T (mkF m 6 #[.val (.long d0), .second, .val (.ref o2), .val (.int d3), .val (.int x4), .val (.long x5), .second] []) := by
  intro k
  induction k with
  | zero => intros; rename_i hr; exact absurd hr (by intro q; cases q)
  | succ k ih =>
    intro T locs h c_o2 n_o2 d0 d3 x4 x5 r X eT N hsz K A_o2 g_o2 hr
    have hr : (if x5 < (128 : Int64) then (if (¬ (x4 < 0) ∧ Int32.toNatClampNeg x4 < n_o2) then (some ((x4 + (1 : Int32)), (upd c_o2 (Int32.toNatClampNeg x4) (nar .byte ((x5.toInt32).toInt8.toInt32))))) else none) else (if (¬ (x4 < 0) ∧ Int32.toNatClampNeg x4 < n_o2) then (f1_6 k (upd c_o2 (Int32.toNatClampNeg x4) (nar .byte ((((x5 &&& (127 : Int64)) ||| (128 : Int64)).toInt32).toInt8.toInt32))) n_o2 (x4 + (1 : Int32)) ((x5.toUInt64 >>> ((7 : Int32) &&& 0x3f).toInt64.toUInt64).toInt64)) else none)) = some r := hr
    refine o_lload X hx (hb hby d1_6) rfl (pc' := 8) rfl ?_
    refine o_ldc2Long X hx hZ hown (hb hby d1_8) (hw _ (List.mem_of_getElem? (i := 7) rfl)) (pc' := 11) rfl ?_
    refine o_lcmp X hx (hb hby d1_11) (pc' := 12) rfl ?_
    by_cases hc1 : x5 < (128 : Int64)
    · rw [if_pos hc1] at hr
      refine o_ifYes X hx (hb hby d1_12) (l_tlt hc1).1 (pc' := 44) (by decide) (by decide) ?_
      refine o_aload_n X hx (hb hby d1_44) rfl rfl (pc' := 45) rfl ?_
      refine o_iload X hx (hb hby d1_45) rfl (pc' := 47) rfl ?_
      refine o_iinc X hx (hb hby d1_47) (1 : Int32) rfl rfl #[.val (.long d0), .second, .val (.ref o2), .val (.int d3), .val (.int (x4 + (1 : Int32))), .val (.long x5), .second] rfl (pc' := 50) rfl ?_
      refine o_lload X hx (hb hby d1_50) rfl (pc' := 52) rfl ?_
      refine o_l2i X hx (hb hby d1_52) (pc' := 53) rfl ?_
      refine o_i2b X hx (hb hby d1_53) (pc' := 54) rfl ?_
      by_cases hg2 : (¬ (x4 < 0) ∧ Int32.toNatClampNeg x4 < n_o2)
      case neg => rw [if_neg hg2] at hr; cases hr
      rw [if_pos hg2] at hr
      refine o_bastore X hx hZ eT A_o2 (hb hby d1_54) (And.left hg2) (And.right hg2) (pc' := 55) rfl ?_
      intro T3 h3 X3 e3 W3
      have A3 : OAr Z h3 o2 .byte n_o2 (ci (upd c_o2 (Int32.toNatClampNeg x4) (nar .byte ((x5.toInt32).toInt8.toInt32)))) := OAr.updI W3 A_o2
      have N3 := Fr.snoc X3 N g_o2
      have z3 : n0 ≤ h3.size := Nat.le_trans hsz (Keep.of_wr W3).1
      have K3 := Keep.wr K W3 (Or.inl (by simp))
      refine o_iload X3 hx (hb hby d1_55) rfl (pc' := 57) rfl ?_
      obtain rfl : ((x4 + (1 : Int32)), (upd c_o2 (Int32.toNatClampNeg x4) (nar .byte ((x5.toInt32).toInt8.toInt32)))) = r := Option.some.inj hr
      exact o_retI X3 hx hlk hret (hb hby d1_57) (by rw [e3]; exact ⟨rfl, N3, K3, A3⟩) (by decide) (by decide)
    · rw [if_neg hc1] at hr
      refine o_ifNo X hx (hb hby d1_12) (l_flt hc1).1 (pc' := 15) rfl ?_
      refine o_aload_n X hx (hb hby d1_15) rfl rfl (pc' := 16) rfl ?_
      refine o_iload X hx (hb hby d1_16) rfl (pc' := 18) rfl ?_
      refine o_iinc X hx (hb hby d1_18) (1 : Int32) rfl rfl #[.val (.long d0), .second, .val (.ref o2), .val (.int d3), .val (.int (x4 + (1 : Int32))), .val (.long x5), .second] rfl (pc' := 21) rfl ?_
      refine o_lload X hx (hb hby d1_21) rfl (pc' := 23) rfl ?_
      refine o_ldc2Long X hx hZ hown (hb hby d1_23) (hw _ (List.mem_of_getElem? (i := 17) rfl)) (pc' := 26) rfl ?_
      refine o_land X hx (hb hby d1_26) (pc' := 27) rfl ?_
      refine o_ldc2Long X hx hZ hown (hb hby d1_27) (hw _ (List.mem_of_getElem? (i := 7) rfl)) (pc' := 30) rfl ?_
      refine o_lor X hx (hb hby d1_30) (pc' := 31) rfl ?_
      refine o_l2i X hx (hb hby d1_31) (pc' := 32) rfl ?_
      refine o_i2b X hx (hb hby d1_32) (pc' := 33) rfl ?_
      by_cases hg4 : (¬ (x4 < 0) ∧ Int32.toNatClampNeg x4 < n_o2)
      case neg => rw [if_neg hg4] at hr; cases hr
      rw [if_pos hg4] at hr
      refine o_bastore X hx hZ eT A_o2 (hb hby d1_33) (And.left hg4) (And.right hg4) (pc' := 34) rfl ?_
      intro T5 h5 X5 e5 W5
      have A5 : OAr Z h5 o2 .byte n_o2 (ci (upd c_o2 (Int32.toNatClampNeg x4) (nar .byte ((((x5 &&& (127 : Int64)) ||| (128 : Int64)).toInt32).toInt8.toInt32)))) := OAr.updI W5 A_o2
      have N5 := Fr.snoc X5 N g_o2
      have z5 : n0 ≤ h5.size := Nat.le_trans hsz (Keep.of_wr W5).1
      have K5 := Keep.wr K W5 (Or.inl (by simp))
      refine o_lload X5 hx (hb hby d1_34) rfl (pc' := 36) rfl ?_
      refine o_bipush X5 hx (hb hby d1_36) (7 : Int32) rfl (pc' := 38) rfl ?_
      refine o_lushr X5 hx (hb hby d1_38) (pc' := 39) rfl ?_
      refine o_lstore X5 hx (hb hby d1_39) #[.val (.long d0), .second, .val (.ref o2), .val (.int d3), .val (.int (x4 + (1 : Int32))), .val (.long ((x5.toUInt64 >>> ((7 : Int32) &&& 0x3f).toInt64.toUInt64).toInt64)), .second] rfl (pc' := 41) rfl ?_
      refine o_goto X5 hx (hb hby d1_41) (pc' := 6) (by decide) (by decide) ?_
      exact ih (upd c_o2 (Int32.toNatClampNeg x4) (nar .byte ((((x5 &&& (127 : Int64)) ||| (128 : Int64)).toInt32).toInt8.toInt32))) n_o2 d0 d3 (x4 + (1 : Int32)) ((x5.toUInt64 >>> ((7 : Int32) &&& 0x3f).toInt64.toUInt64).toInt64) r X5 e5 N5 z5 K5 A5 g_o2 hr
def f1_0 (c_o2 : (Nat → Int32)) (n_o2 : Nat) (x0 : Int64) (x3 : Int32) : Option (Int32 × (Nat → Int32)) := (f1_6 10 c_o2 n_o2 x3 x0)
set_option maxRecDepth 65536 in
set_option maxHeartbeats 40000000 in
theorem b1_0 {p : Program} {l : Launch} {e : Env} {s : State} {m : MethodId} {args : Array Value} {below : List Frame} {meth : Method} {c : Code} {Z : State} {a0 : Array Value} {h0 : Heap} {n0 : Nat} (hx : p.tables.exec = Jvm.exec) (hZ : Z.Warmed39 s.vm) (hw : ∀ d ∈ tables_1, d.before a0 Z = true) (hby : c.code = prog_53_method_2_code) (hml : c.maxLocals = 7) (hown : s.vm.findClass "com/example/libtreegram/libtreegram/io/Leb128" = some m.cls) (hnm : meth.name = "put") (hret : meth.sig.returnType = some .int) (hlk : meth.locks = false) (o2 : Addr) {T : State} {locs : List Loc} {h : Heap} (c_o2 : Nat → Int32) (n_o2 : Nat) (x0 : Int64) (x3 : Int32) (r : Int32 × (Nat → Int32)) (X : Stand p l e ({ frames := 0, cells := 0, slots := 0, locals := 0 } : Room) s m args below meth c T locs 0 0) (eT : T.heap = h) (N : Fr n0 locs) (hsz : n0 ≤ h.size) (K : Keep h0 h [o2]) (A_o2 : OAr Z h o2 .byte n_o2 (ci c_o2)) (g_o2 : n0 ≤ o2) (hr : f1_0 c_o2 n_o2 x0 x3 = some r) :
    OG p e below s (fun v h L => v = (some (.int r.1)) ∧ Fr n0 L ∧ Keep h0 h [o2] ∧ OAr Z h o2 .byte n_o2 (ci r.2)) 0 0 T (mkF m 0 #[.val (.long x0), .second, .val (.ref o2), .val (.int x3), .unset, .unset, .unset] []) := by
  have hr : (f1_6 10 c_o2 n_o2 x3 x0) = some r := hr
  refine o_iload_n X hx (hb hby d1_0) rfl (pc' := 1) rfl ?_
  refine o_istore X hx (hb hby d1_1) #[.val (.long x0), .second, .val (.ref o2), .val (.int x3), .val (.int x3), .unset, .unset] rfl (pc' := 3) rfl ?_
  refine o_lload_n X hx (hb hby d1_3) rfl (pc' := 4) rfl ?_
  refine o_lstore X hx (hb hby d1_4) #[.val (.long x0), .second, .val (.ref o2), .val (.int x3), .val (.int x3), .val (.long x0), .second] rfl (pc' := 6) rfl ?_
  exact b1_6 hx hZ hw hby hml hown hnm hret hlk o2 10 c_o2 n_o2 x0 x3 x3 x0 r X eT N hsz K A_o2 g_o2 hr
theorem pn_1 : plainName "com/example/libtreegram/libtreegram/io/Leb128" = true := by first | (simp [plainName, overriddenIn]; done) | decide +kernel
theorem ef_1 (m : MethodId) (x0 : Int64) (o2 : Addr) (x3 : Int32) : entryFrame m #[(.long x0), (.ref o2), (.int x3)] 7 = (mkF m 0 #[.val (.long x0), .second, .val (.ref o2), .val (.int x3), .unset, .unset, .unset] []) := by first | (simp [entryFrame, mkF, argsToLocals, Value.category]; done) | rfl
def Qd1 (Z : State) (h0 : Heap) (n0 : Nat) (x0 : Int64) (o2 : Addr) (x3 : Int32) (c_o2 : Nat → Int32) (n_o2 : Nat) (r : Int32 × (Nat → Int32)) : Option Value → Heap → List Loc → Prop := (fun v h L => v = (some (.int r.1)) ∧ Fr n0 L ∧ Keep h0 h [o2] ∧ OAr Z h o2 .byte n_o2 (ci r.2))
set_option maxRecDepth 65536 in
set_option maxHeartbeats 40000000 in
theorem rm1 (l : Launch) (Z : State) (a0 : Array Value) (hw : ∀ d ∈ tables_1, d.before a0 Z = true) (ws : List Jvm.Cond) (x0 : Int64) (o2 : Addr) (x3 : Int32) (c_o2 : Nat → Int32) (n_o2 : Nat) (h0 : Heap) (n0 : Nat) (Z0 : n0 ≤ h0.size) (A_o2 : OAr Z h0 o2 .byte n_o2 (ci c_o2)) (g_o2 : n0 ≤ o2) (r : Int32 × (Nat → Int32)) (hr : f1_0 c_o2 n_o2 x0 x3 = some r) :
    MetFree l (⟨"com/example/libtreegram/libtreegram/io/Leb128", "put", "(J[BI)I"⟩ : MethodName) (head1 (Jvm.Cond.code (⟨"com/example/libtreegram/libtreegram/io/Leb128", "put", "(J[BI)I"⟩ : MethodName) prog_53_method_2_code 7 (some .int) :: ws) ({ frames := 0, cells := 0, slots := 0, locals := 0 } : Room)) (fun a U => a = #[(.long x0), (.ref o2), (.int x3)] ∧ Z.Warmed39 U.vm ∧ U.heap = h0) (fun _ _ _ _ _ => True) (fun _ U o U' => ∃ v L, o = .returned v ∧ (Qd1 Z h0 n0 x0 o2 x3 c_o2 n_o2 r) v U'.heap L ∧ FrameEnd U o U' L ({ frames := 0, cells := 0, slots := 0, locals := 0 } : Room).cells ({ frames := 0, cells := 0, slots := 0, locals := 0 } : Room).slots) := by
  refine MetFree.of_bodySF (plainFor_of_name pn_1) hisR ?_
  intro p e s m args below meth c s₁ Bd hml0 hP hK
  obtain ⟨rfl, hZ, hh⟩ := hP
  have e0 : s₁.heap = h0 := by rw [← hh, Bd.state]; rfl
  exact OG.cast (ef_1 m x0 o2 x3) (b1_0 Bd.exec hZ hw Bd.bytes hml0 (findClass_of_methodNamed Bd.named) (name_of_methodNamed Bd.named Bd.method).1 Bd.returns Bd.notSynchronized o2 c_o2 n_o2 x0 x3 r (Stand.of_body Bd) e0 (Fr.nil n0) Z0 (Keep.refl h0 [o2]) A_o2 g_o2 hr)
theorem d2_0 : decode method_3_code 0 = .ok (.lload_n 0, 1) := by decide +kernel
theorem d2_1 : decode method_3_code 1 = .ok (.ldc2_w 28, 3) := by decide +kernel
theorem d2_4 : decode method_3_code 4 = .ok (.lcmp, 1) := by decide +kernel
theorem d2_5 : decode method_3_code 5 = .ok (.ifCond .ge 5, 3) := by decide +kernel
theorem d2_8 : decode method_3_code 8 = .ok (.iconst 1, 1) := by decide +kernel
theorem d2_9 : decode method_3_code 9 = .ok (.ireturn, 1) := by decide +kernel
theorem d2_10 : decode method_3_code 10 = .ok (.lload_n 0, 1) := by decide +kernel
theorem d2_11 : decode method_3_code 11 = .ok (.ldc2_w 30, 3) := by decide +kernel
theorem d2_14 : decode method_3_code 14 = .ok (.lcmp, 1) := by decide +kernel
theorem d2_15 : decode method_3_code 15 = .ok (.ifCond .ge 5, 3) := by decide +kernel
theorem d2_18 : decode method_3_code 18 = .ok (.iconst 2, 1) := by decide +kernel
theorem d2_19 : decode method_3_code 19 = .ok (.ireturn, 1) := by decide +kernel
theorem d2_20 : decode method_3_code 20 = .ok (.lload_n 0, 1) := by decide +kernel
theorem d2_21 : decode method_3_code 21 = .ok (.ldc2_w 32, 3) := by decide +kernel
theorem d2_24 : decode method_3_code 24 = .ok (.lcmp, 1) := by decide +kernel
theorem d2_25 : decode method_3_code 25 = .ok (.ifCond .ge 5, 3) := by decide +kernel
theorem d2_28 : decode method_3_code 28 = .ok (.iconst 3, 1) := by decide +kernel
theorem d2_29 : decode method_3_code 29 = .ok (.ireturn, 1) := by decide +kernel
theorem d2_30 : decode method_3_code 30 = .ok (.lload_n 0, 1) := by decide +kernel
theorem d2_31 : decode method_3_code 31 = .ok (.ldc2_w 34, 3) := by decide +kernel
theorem d2_34 : decode method_3_code 34 = .ok (.lcmp, 1) := by decide +kernel
theorem d2_35 : decode method_3_code 35 = .ok (.ifCond .ge 5, 3) := by decide +kernel
theorem d2_38 : decode method_3_code 38 = .ok (.iconst 4, 1) := by decide +kernel
theorem d2_39 : decode method_3_code 39 = .ok (.ireturn, 1) := by decide +kernel
theorem d2_40 : decode method_3_code 40 = .ok (.lload_n 0, 1) := by decide +kernel
theorem d2_41 : decode method_3_code 41 = .ok (.ldc2_w 36, 3) := by decide +kernel
theorem d2_44 : decode method_3_code 44 = .ok (.lcmp, 1) := by decide +kernel
theorem d2_45 : decode method_3_code 45 = .ok (.ifCond .ge 5, 3) := by decide +kernel
theorem d2_48 : decode method_3_code 48 = .ok (.iconst 5, 1) := by decide +kernel
theorem d2_49 : decode method_3_code 49 = .ok (.ireturn, 1) := by decide +kernel
theorem d2_50 : decode method_3_code 50 = .ok (.lload_n 0, 1) := by decide +kernel
theorem d2_51 : decode method_3_code 51 = .ok (.ldc2_w 38, 3) := by decide +kernel
theorem d2_54 : decode method_3_code 54 = .ok (.lcmp, 1) := by decide +kernel
theorem d2_55 : decode method_3_code 55 = .ok (.ifCond .ge 6, 3) := by decide +kernel
theorem d2_58 : decode method_3_code 58 = .ok (.bipush 6, 2) := by decide +kernel
theorem d2_60 : decode method_3_code 60 = .ok (.ireturn, 1) := by decide +kernel
theorem d2_61 : decode method_3_code 61 = .ok (.lload_n 0, 1) := by decide +kernel
theorem d2_62 : decode method_3_code 62 = .ok (.ldc2_w 40, 3) := by decide +kernel
theorem d2_65 : decode method_3_code 65 = .ok (.lcmp, 1) := by decide +kernel
theorem d2_66 : decode method_3_code 66 = .ok (.ifCond .ge 6, 3) := by decide +kernel
theorem d2_69 : decode method_3_code 69 = .ok (.bipush 7, 2) := by decide +kernel
theorem d2_71 : decode method_3_code 71 = .ok (.ireturn, 1) := by decide +kernel
theorem d2_72 : decode method_3_code 72 = .ok (.lload_n 0, 1) := by decide +kernel
theorem d2_73 : decode method_3_code 73 = .ok (.ldc2_w 42, 3) := by decide +kernel
theorem d2_76 : decode method_3_code 76 = .ok (.lcmp, 1) := by decide +kernel
theorem d2_77 : decode method_3_code 77 = .ok (.ifCond .ge 6, 3) := by decide +kernel
theorem d2_80 : decode method_3_code 80 = .ok (.bipush 8, 2) := by decide +kernel
theorem d2_82 : decode method_3_code 82 = .ok (.ireturn, 1) := by decide +kernel
theorem d2_83 : decode method_3_code 83 = .ok (.bipush 9, 2) := by decide +kernel
theorem d2_85 : decode method_3_code 85 = .ok (.ireturn, 1) := by decide +kernel
def f2_0 (x0 : Int64) : Int32 := (if x0 < (128 : Int64) then (1 : Int32) else (if x0 < (16384 : Int64) then (2 : Int32) else (if x0 < (2097152 : Int64) then (3 : Int32) else (if x0 < (268435456 : Int64) then (4 : Int32) else (if x0 < (34359738368 : Int64) then (5 : Int32) else (if x0 < (4398046511104 : Int64) then (6 : Int32) else (if x0 < (562949953421312 : Int64) then (7 : Int32) else (if x0 < (72057594037927936 : Int64) then (8 : Int32) else (9 : Int32)))))))))
set_option maxRecDepth 65536 in
set_option maxHeartbeats 40000000 in
theorem b2_0 {p : Program} {l : Launch} {e : Env} {s : State} {m : MethodId} {args : Array Value} {below : List Frame} {meth : Method} {c : Code} {Z : State} {a0 : Array Value} {h0 : Heap} {n0 : Nat} (hx : p.tables.exec = Jvm.exec) (hZ : Z.Warmed39 s.vm) (hw : ∀ d ∈ tables_1, d.before a0 Z = true) (hby : c.code = method_3_code) (hml : c.maxLocals = 2) (hown : s.vm.findClass "com/example/libtreegram/libtreegram/io/Leb128PutPinLaw" = some m.cls) (hnm : meth.name = "length") (hret : meth.sig.returnType = some .int) (hlk : meth.locks = false)  {T : State} {locs : List Loc} (x0 : Int64) (r : Int32) (X : Stand p l e ({ frames := 0, cells := 0, slots := 0, locals := 0 } : Room) s m args below meth c T locs 0 0) (eT : T.heap = h0) (N : Fr n0 locs) (Z0 : n0 ≤ h0.size) (hr : f2_0 x0 = r) :
    OG p e below s (fun v h L => v = (some (.int r)) ∧ Fr n0 L ∧ h = h0) 0 0 T (mkF m 0 #[.val (.long x0), .second] []) := by
  have hr : (if x0 < (128 : Int64) then (1 : Int32) else (if x0 < (16384 : Int64) then (2 : Int32) else (if x0 < (2097152 : Int64) then (3 : Int32) else (if x0 < (268435456 : Int64) then (4 : Int32) else (if x0 < (34359738368 : Int64) then (5 : Int32) else (if x0 < (4398046511104 : Int64) then (6 : Int32) else (if x0 < (562949953421312 : Int64) then (7 : Int32) else (if x0 < (72057594037927936 : Int64) then (8 : Int32) else (9 : Int32))))))))) = r := hr
  refine o_lload_n X hx (hb hby d2_0) rfl (pc' := 1) rfl ?_
  refine o_ldc2Long X hx hZ hown (hb hby d2_1) (hw _ (List.mem_of_getElem? (i := 12) rfl)) (pc' := 4) rfl ?_
  refine o_lcmp X hx (hb hby d2_4) (pc' := 5) rfl ?_
  by_cases hc1 : x0 < (128 : Int64)
  · rw [if_pos hc1] at hr
    refine o_ifNo X hx (hb hby d2_5) (l_tlt hc1).2 (pc' := 8) rfl ?_
    refine o_iconst X hx (hb hby d2_8) (1 : Int32) rfl (pc' := 9) rfl ?_
    subst hr
    exact o_retI X hx hlk hret (hb hby d2_9) ⟨rfl, N, eT⟩ (by decide) (by decide)
  · rw [if_neg hc1] at hr
    refine o_ifYes X hx (hb hby d2_5) (l_flt hc1).2 (pc' := 10) (by decide) (by decide) ?_
    refine o_lload_n X hx (hb hby d2_10) rfl (pc' := 11) rfl ?_
    refine o_ldc2Long X hx hZ hown (hb hby d2_11) (hw _ (List.mem_of_getElem? (i := 18) rfl)) (pc' := 14) rfl ?_
    refine o_lcmp X hx (hb hby d2_14) (pc' := 15) rfl ?_
    by_cases hc2 : x0 < (16384 : Int64)
    · rw [if_pos hc2] at hr
      refine o_ifNo X hx (hb hby d2_15) (l_tlt hc2).2 (pc' := 18) rfl ?_
      refine o_iconst X hx (hb hby d2_18) (2 : Int32) rfl (pc' := 19) rfl ?_
      subst hr
      exact o_retI X hx hlk hret (hb hby d2_19) ⟨rfl, N, eT⟩ (by decide) (by decide)
    · rw [if_neg hc2] at hr
      refine o_ifYes X hx (hb hby d2_15) (l_flt hc2).2 (pc' := 20) (by decide) (by decide) ?_
      refine o_lload_n X hx (hb hby d2_20) rfl (pc' := 21) rfl ?_
      refine o_ldc2Long X hx hZ hown (hb hby d2_21) (hw _ (List.mem_of_getElem? (i := 19) rfl)) (pc' := 24) rfl ?_
      refine o_lcmp X hx (hb hby d2_24) (pc' := 25) rfl ?_
      by_cases hc3 : x0 < (2097152 : Int64)
      · rw [if_pos hc3] at hr
        refine o_ifNo X hx (hb hby d2_25) (l_tlt hc3).2 (pc' := 28) rfl ?_
        refine o_iconst X hx (hb hby d2_28) (3 : Int32) rfl (pc' := 29) rfl ?_
        subst hr
        exact o_retI X hx hlk hret (hb hby d2_29) ⟨rfl, N, eT⟩ (by decide) (by decide)
      · rw [if_neg hc3] at hr
        refine o_ifYes X hx (hb hby d2_25) (l_flt hc3).2 (pc' := 30) (by decide) (by decide) ?_
        refine o_lload_n X hx (hb hby d2_30) rfl (pc' := 31) rfl ?_
        refine o_ldc2Long X hx hZ hown (hb hby d2_31) (hw _ (List.mem_of_getElem? (i := 20) rfl)) (pc' := 34) rfl ?_
        refine o_lcmp X hx (hb hby d2_34) (pc' := 35) rfl ?_
        by_cases hc4 : x0 < (268435456 : Int64)
        · rw [if_pos hc4] at hr
          refine o_ifNo X hx (hb hby d2_35) (l_tlt hc4).2 (pc' := 38) rfl ?_
          refine o_iconst X hx (hb hby d2_38) (4 : Int32) rfl (pc' := 39) rfl ?_
          subst hr
          exact o_retI X hx hlk hret (hb hby d2_39) ⟨rfl, N, eT⟩ (by decide) (by decide)
        · rw [if_neg hc4] at hr
          refine o_ifYes X hx (hb hby d2_35) (l_flt hc4).2 (pc' := 40) (by decide) (by decide) ?_
          refine o_lload_n X hx (hb hby d2_40) rfl (pc' := 41) rfl ?_
          refine o_ldc2Long X hx hZ hown (hb hby d2_41) (hw _ (List.mem_of_getElem? (i := 21) rfl)) (pc' := 44) rfl ?_
          refine o_lcmp X hx (hb hby d2_44) (pc' := 45) rfl ?_
          by_cases hc5 : x0 < (34359738368 : Int64)
          · rw [if_pos hc5] at hr
            refine o_ifNo X hx (hb hby d2_45) (l_tlt hc5).2 (pc' := 48) rfl ?_
            refine o_iconst X hx (hb hby d2_48) (5 : Int32) rfl (pc' := 49) rfl ?_
            subst hr
            exact o_retI X hx hlk hret (hb hby d2_49) ⟨rfl, N, eT⟩ (by decide) (by decide)
          · rw [if_neg hc5] at hr
            refine o_ifYes X hx (hb hby d2_45) (l_flt hc5).2 (pc' := 50) (by decide) (by decide) ?_
            refine o_lload_n X hx (hb hby d2_50) rfl (pc' := 51) rfl ?_
            refine o_ldc2Long X hx hZ hown (hb hby d2_51) (hw _ (List.mem_of_getElem? (i := 22) rfl)) (pc' := 54) rfl ?_
            refine o_lcmp X hx (hb hby d2_54) (pc' := 55) rfl ?_
            by_cases hc6 : x0 < (4398046511104 : Int64)
            · rw [if_pos hc6] at hr
              refine o_ifNo X hx (hb hby d2_55) (l_tlt hc6).2 (pc' := 58) rfl ?_
              refine o_bipush X hx (hb hby d2_58) (6 : Int32) rfl (pc' := 60) rfl ?_
              subst hr
              exact o_retI X hx hlk hret (hb hby d2_60) ⟨rfl, N, eT⟩ (by decide) (by decide)
            · rw [if_neg hc6] at hr
              refine o_ifYes X hx (hb hby d2_55) (l_flt hc6).2 (pc' := 61) (by decide) (by decide) ?_
              refine o_lload_n X hx (hb hby d2_61) rfl (pc' := 62) rfl ?_
              refine o_ldc2Long X hx hZ hown (hb hby d2_62) (hw _ (List.mem_of_getElem? (i := 23) rfl)) (pc' := 65) rfl ?_
              refine o_lcmp X hx (hb hby d2_65) (pc' := 66) rfl ?_
              by_cases hc7 : x0 < (562949953421312 : Int64)
              · rw [if_pos hc7] at hr
                refine o_ifNo X hx (hb hby d2_66) (l_tlt hc7).2 (pc' := 69) rfl ?_
                refine o_bipush X hx (hb hby d2_69) (7 : Int32) rfl (pc' := 71) rfl ?_
                subst hr
                exact o_retI X hx hlk hret (hb hby d2_71) ⟨rfl, N, eT⟩ (by decide) (by decide)
              · rw [if_neg hc7] at hr
                refine o_ifYes X hx (hb hby d2_66) (l_flt hc7).2 (pc' := 72) (by decide) (by decide) ?_
                refine o_lload_n X hx (hb hby d2_72) rfl (pc' := 73) rfl ?_
                refine o_ldc2Long X hx hZ hown (hb hby d2_73) (hw _ (List.mem_of_getElem? (i := 24) rfl)) (pc' := 76) rfl ?_
                refine o_lcmp X hx (hb hby d2_76) (pc' := 77) rfl ?_
                by_cases hc8 : x0 < (72057594037927936 : Int64)
                · rw [if_pos hc8] at hr
                  refine o_ifNo X hx (hb hby d2_77) (l_tlt hc8).2 (pc' := 80) rfl ?_
                  refine o_bipush X hx (hb hby d2_80) (8 : Int32) rfl (pc' := 82) rfl ?_
                  subst hr
                  exact o_retI X hx hlk hret (hb hby d2_82) ⟨rfl, N, eT⟩ (by decide) (by decide)
                · rw [if_neg hc8] at hr
                  refine o_ifYes X hx (hb hby d2_77) (l_flt hc8).2 (pc' := 83) (by decide) (by decide) ?_
                  refine o_bipush X hx (hb hby d2_83) (9 : Int32) rfl (pc' := 85) rfl ?_
                  subst hr
                  exact o_retI X hx hlk hret (hb hby d2_85) ⟨rfl, N, eT⟩ (by decide) (by decide)
theorem pn_2 : plainName "com/example/libtreegram/libtreegram/io/Leb128PutPinLaw" = true := by first | (simp [plainName, overriddenIn]; done) | decide +kernel
theorem ef_2 (m : MethodId) (x0 : Int64) : entryFrame m #[(.long x0)] 2 = (mkF m 0 #[.val (.long x0), .second] []) := by first | (simp [entryFrame, mkF, argsToLocals, Value.category]; done) | rfl
def Qd2 (Z : State) (h0 : Heap) (n0 : Nat) (x0 : Int64) (r : Int32) : Option Value → Heap → List Loc → Prop := (fun v h L => v = (some (.int r)) ∧ Fr n0 L ∧ h = h0)
set_option maxRecDepth 65536 in
set_option maxHeartbeats 40000000 in
theorem rm2 (l : Launch) (Z : State) (a0 : Array Value) (hw : ∀ d ∈ tables_1, d.before a0 Z = true) (ws : List Jvm.Cond) (x0 : Int64) (h0 : Heap) (n0 : Nat) (Z0 : n0 ≤ h0.size) (r : Int32) (hr : f2_0 x0 = r) :
    MetFree l (⟨"com/example/libtreegram/libtreegram/io/Leb128PutPinLaw", "length", "(J)I"⟩ : MethodName) (head1 (Jvm.Cond.code (⟨"com/example/libtreegram/libtreegram/io/Leb128PutPinLaw", "length", "(J)I"⟩ : MethodName) method_3_code 2 (some .int) :: ws) ({ frames := 0, cells := 0, slots := 0, locals := 0 } : Room)) (fun a U => a = #[(.long x0)] ∧ Z.Warmed39 U.vm ∧ U.heap = h0) (fun _ _ _ _ _ => True) (fun _ U o U' => ∃ v L, o = .returned v ∧ (Qd2 Z h0 n0 x0 r) v U'.heap L ∧ FrameEnd U o U' L ({ frames := 0, cells := 0, slots := 0, locals := 0 } : Room).cells ({ frames := 0, cells := 0, slots := 0, locals := 0 } : Room).slots) := by
  refine MetFree.of_bodySF (plainFor_of_name pn_2) hisR ?_
  intro p e s m args below meth c s₁ Bd hml0 hP hK
  obtain ⟨rfl, hZ, hh⟩ := hP
  have e0 : s₁.heap = h0 := by rw [← hh, Bd.state]; rfl
  exact OG.cast (ef_2 m x0) (b2_0 Bd.exec hZ hw Bd.bytes hml0 (findClass_of_methodNamed Bd.named) (name_of_methodNamed Bd.named Bd.method).1 Bd.returns Bd.notSynchronized x0 r (Stand.of_body Bd) e0 (Fr.nil n0) Z0 hr)
theorem d3_0 : decode method_4_code 0 = .ok (.iload_n 1, 1) := by decide +kernel
theorem d3_1 : decode method_4_code 1 = .ok (.iload 4, 2) := by decide +kernel
theorem d3_3 : decode method_4_code 3 = .ok (.if_icmp .lt 12, 3) := by decide +kernel
theorem d3_15 : decode method_4_code 15 = .ok (.iload 6, 2) := by decide +kernel
theorem d3_17 : decode method_4_code 17 = .ok (.istore 7, 2) := by decide +kernel
theorem d3_19 : decode method_4_code 19 = .ok (.goto 45, 3) := by decide +kernel
theorem d3_64 : decode method_4_code 64 = .ok (.aload_n 0, 1) := by decide +kernel
theorem d3_65 : decode method_4_code 65 = .ok (.iload_n 1, 1) := by decide +kernel
theorem d3_66 : decode method_4_code 66 = .ok (.baload, 1) := by decide +kernel
theorem d3_67 : decode method_4_code 67 = .ok (.iload 7, 2) := by decide +kernel
theorem d3_69 : decode method_4_code 69 = .ok (.if_icmp .ne 7, 3) := by decide +kernel
theorem d3_72 : decode method_4_code 72 = .ok (.iconst 1, 1) := by decide +kernel
theorem d3_73 : decode method_4_code 73 = .ok (.goto 4, 3) := by decide +kernel
theorem d3_77 : decode method_4_code 77 = .ok (.ireturn, 1) := by decide +kernel
theorem d3_76 : decode method_4_code 76 = .ok (.iconst 0, 1) := by decide +kernel
theorem d3_6 : decode method_4_code 6 = .ok (.iload_n 1, 1) := by decide +kernel
theorem d3_7 : decode method_4_code 7 = .ok (.iload 4, 2) := by decide +kernel
theorem d3_9 : decode method_4_code 9 = .ok (.iload 5, 2) := by decide +kernel
theorem d3_11 : decode method_4_code 11 = .ok (.iadd, 1) := by decide +kernel
theorem d3_12 : decode method_4_code 12 = .ok (.if_icmp .lt 10, 3) := by decide +kernel
theorem d3_22 : decode method_4_code 22 = .ok (.iload_n 1, 1) := by decide +kernel
theorem d3_23 : decode method_4_code 23 = .ok (.iload 4, 2) := by decide +kernel
theorem d3_25 : decode method_4_code 25 = .ok (.isub, 1) := by decide +kernel
theorem d3_26 : decode method_4_code 26 = .ok (.istore 8, 2) := by decide +kernel
theorem d3_28 : decode method_4_code 28 = .ok (.lload_n 2, 1) := by decide +kernel
theorem d3_29 : decode method_4_code 29 = .ok (.bipush 7, 2) := by decide +kernel
theorem d3_31 : decode method_4_code 31 = .ok (.iload 8, 2) := by decide +kernel
theorem d3_33 : decode method_4_code 33 = .ok (.imul, 1) := by decide +kernel
theorem d3_34 : decode method_4_code 34 = .ok (.lushr, 1) := by decide +kernel
theorem d3_35 : decode method_4_code 35 = .ok (.ldc2_w 44, 3) := by decide +kernel
theorem d3_38 : decode method_4_code 38 = .ok (.land, 1) := by decide +kernel
theorem d3_39 : decode method_4_code 39 = .ok (.l2i, 1) := by decide +kernel
theorem d3_40 : decode method_4_code 40 = .ok (.istore 9, 2) := by decide +kernel
theorem d3_42 : decode method_4_code 42 = .ok (.iload 8, 2) := by decide +kernel
theorem d3_44 : decode method_4_code 44 = .ok (.iload 5, 2) := by decide +kernel
theorem d3_46 : decode method_4_code 46 = .ok (.iconst 1, 1) := by decide +kernel
theorem d3_47 : decode method_4_code 47 = .ok (.isub, 1) := by decide +kernel
theorem d3_48 : decode method_4_code 48 = .ok (.if_icmp .ge 11, 3) := by decide +kernel
theorem d3_51 : decode method_4_code 51 = .ok (.iload 9, 2) := by decide +kernel
theorem d3_53 : decode method_4_code 53 = .ok (.sipush 128, 3) := by decide +kernel
theorem d3_56 : decode method_4_code 56 = .ok (.ior, 1) := by decide +kernel
theorem d3_57 : decode method_4_code 57 = .ok (.istore 9, 2) := by decide +kernel
theorem d3_59 : decode method_4_code 59 = .ok (.iload 9, 2) := by decide +kernel
theorem d3_61 : decode method_4_code 61 = .ok (.i2b, 1) := by decide +kernel
theorem d3_62 : decode method_4_code 62 = .ok (.istore 7, 2) := by decide +kernel
def f3_64 (c_o0 : (Nat → Int32)) (n_o0 : Nat) (x1 : Int32) (x7 : Int32) : Option (Int32) := (if (¬ (x1 < 0) ∧ Int32.toNatClampNeg x1 < n_o0) then (if (c_o0 (Int32.toNatClampNeg x1)) = x7 then (some (1 : Int32)) else (some (0 : Int32))) else none)
set_option maxRecDepth 65536 in
set_option maxHeartbeats 40000000 in
theorem b3_64 {p : Program} {l : Launch} {e : Env} {s : State} {m : MethodId} {args : Array Value} {below : List Frame} {meth : Method} {c : Code} {Z : State} {a0 : Array Value} {h0 : Heap} {n0 : Nat} (hx : p.tables.exec = Jvm.exec) (hZ : Z.Warmed39 s.vm) (hw : ∀ d ∈ tables_1, d.before a0 Z = true) (hby : c.code = method_4_code) (hml : c.maxLocals = 10) (hown : s.vm.findClass "com/example/libtreegram/libtreegram/io/Leb128PutPinLaw" = some m.cls) (hnm : meth.name = "ok") (hret : meth.sig.returnType = some .boolean) (hlk : meth.locks = false) (o0 : Addr) {T : State} {locs : List Loc} (c_o0 : Nat → Int32) (n_o0 : Nat) (x1 : Int32) (d2 : Int64) (d4 : Int32) (d5 : Int32) (d6 : Int32) (x7 : Int32) (r : Int32) (X : Stand p l e ({ frames := 0, cells := 0, slots := 0, locals := 0 } : Room) s m args below meth c T locs 0 0) (eT : T.heap = h0) (N : Fr n0 locs) (Z0 : n0 ≤ h0.size) (A_o0 : OAr Z h0 o0 .byte n_o0 (ci c_o0)) (hr : f3_64 c_o0 n_o0 x1 x7 = some r) :
    OG p e below s (fun v h L => v = (some (.int r)) ∧ Fr n0 L ∧ h = h0) 0 0 T (mkF m 64 #[.val (.ref o0), .val (.int x1), .val (.long d2), .second, .val (.int d4), .val (.int d5), .val (.int d6), .val (.int x7), .unset, .unset] []) := by
  have hr : (if (¬ (x1 < 0) ∧ Int32.toNatClampNeg x1 < n_o0) then (if (c_o0 (Int32.toNatClampNeg x1)) = x7 then (some (1 : Int32)) else (some (0 : Int32))) else none) = some r := hr
  refine o_aload_n X hx (hb hby d3_64) rfl rfl (pc' := 65) rfl ?_
  refine o_iload_n X hx (hb hby d3_65) rfl (pc' := 66) rfl ?_
  by_cases hg2 : (¬ (x1 < 0) ∧ Int32.toNatClampNeg x1 < n_o0)
  case neg => rw [if_neg hg2] at hr; cases hr
  rw [if_pos hg2] at hr
  refine o_baload X hx hZ eT A_o0 (hb hby d3_66) (And.left hg2) (And.right hg2) (c_o0 (Int32.toNatClampNeg x1)) rfl (pc' := 67) rfl ?_
  refine o_iload X hx (hb hby d3_67) rfl (pc' := 69) rfl ?_
  by_cases hc3 : (c_o0 (Int32.toNatClampNeg x1)) = x7
  · rw [if_pos hc3] at hr
    refine o_icmpNo X hx (hb hby d3_69) (c_teq hc3).2 (pc' := 72) rfl ?_
    refine o_iconst X hx (hb hby d3_72) (1 : Int32) rfl (pc' := 73) rfl ?_
    refine o_goto X hx (hb hby d3_73) (pc' := 77) (by decide) (by decide) ?_
    obtain rfl : (1 : Int32) = r := Option.some.inj hr
    exact o_retN X hx hlk (t := .boolean) (by simp) hret (hb hby d3_77) rfl ⟨rfl, N, eT⟩ (by decide) (by decide)
  · rw [if_neg hc3] at hr
    refine o_icmpYes X hx (hb hby d3_69) (c_feq hc3).2 (pc' := 76) (by decide) (by decide) ?_
    refine o_iconst X hx (hb hby d3_76) (0 : Int32) rfl (pc' := 77) rfl ?_
    obtain rfl : (0 : Int32) = r := Option.some.inj hr
    exact o_retN X hx hlk (t := .boolean) (by simp) hret (hb hby d3_77) rfl ⟨rfl, N, eT⟩ (by decide) (by decide)
def f3_15 (c_o0 : (Nat → Int32)) (n_o0 : Nat) (x1 : Int32) (x6 : Int32) : Option (Int32) := (f3_64 c_o0 n_o0 x1 x6)
set_option maxRecDepth 65536 in
set_option maxHeartbeats 40000000 in
theorem b3_15 {p : Program} {l : Launch} {e : Env} {s : State} {m : MethodId} {args : Array Value} {below : List Frame} {meth : Method} {c : Code} {Z : State} {a0 : Array Value} {h0 : Heap} {n0 : Nat} (hx : p.tables.exec = Jvm.exec) (hZ : Z.Warmed39 s.vm) (hw : ∀ d ∈ tables_1, d.before a0 Z = true) (hby : c.code = method_4_code) (hml : c.maxLocals = 10) (hown : s.vm.findClass "com/example/libtreegram/libtreegram/io/Leb128PutPinLaw" = some m.cls) (hnm : meth.name = "ok") (hret : meth.sig.returnType = some .boolean) (hlk : meth.locks = false) (o0 : Addr) {T : State} {locs : List Loc} (c_o0 : Nat → Int32) (n_o0 : Nat) (x1 : Int32) (d2 : Int64) (d4 : Int32) (d5 : Int32) (x6 : Int32) (r : Int32) (X : Stand p l e ({ frames := 0, cells := 0, slots := 0, locals := 0 } : Room) s m args below meth c T locs 0 0) (eT : T.heap = h0) (N : Fr n0 locs) (Z0 : n0 ≤ h0.size) (A_o0 : OAr Z h0 o0 .byte n_o0 (ci c_o0)) (hr : f3_15 c_o0 n_o0 x1 x6 = some r) :
    OG p e below s (fun v h L => v = (some (.int r)) ∧ Fr n0 L ∧ h = h0) 0 0 T (mkF m 15 #[.val (.ref o0), .val (.int x1), .val (.long d2), .second, .val (.int d4), .val (.int d5), .val (.int x6), .unset, .unset, .unset] []) := by
  have hr : (f3_64 c_o0 n_o0 x1 x6) = some r := hr
  refine o_iload X hx (hb hby d3_15) rfl (pc' := 17) rfl ?_
  refine o_istore X hx (hb hby d3_17) #[.val (.ref o0), .val (.int x1), .val (.long d2), .second, .val (.int d4), .val (.int d5), .val (.int x6), .val (.int x6), .unset, .unset] rfl (pc' := 19) rfl ?_
  refine o_goto X hx (hb hby d3_19) (pc' := 64) (by decide) (by decide) ?_
  exact b3_64 hx hZ hw hby hml hown hnm hret hlk o0 c_o0 n_o0 x1 d2 d4 d5 x6 x6 r X eT N Z0 A_o0 hr
set_option maxRecDepth 65536 in
set_option maxHeartbeats 40000000 in
theorem b3_64a {p : Program} {l : Launch} {e : Env} {s : State} {m : MethodId} {args : Array Value} {below : List Frame} {meth : Method} {c : Code} {Z : State} {a0 : Array Value} {h0 : Heap} {n0 : Nat} (hx : p.tables.exec = Jvm.exec) (hZ : Z.Warmed39 s.vm) (hw : ∀ d ∈ tables_1, d.before a0 Z = true) (hby : c.code = method_4_code) (hml : c.maxLocals = 10) (hown : s.vm.findClass "com/example/libtreegram/libtreegram/io/Leb128PutPinLaw" = some m.cls) (hnm : meth.name = "ok") (hret : meth.sig.returnType = some .boolean) (hlk : meth.locks = false) (o0 : Addr) {T : State} {locs : List Loc} (c_o0 : Nat → Int32) (n_o0 : Nat) (x1 : Int32) (d2 : Int64) (d4 : Int32) (d5 : Int32) (d6 : Int32) (x7 : Int32) (d8 : Int32) (d9 : Int32) (r : Int32) (X : Stand p l e ({ frames := 0, cells := 0, slots := 0, locals := 0 } : Room) s m args below meth c T locs 0 0) (eT : T.heap = h0) (N : Fr n0 locs) (Z0 : n0 ≤ h0.size) (A_o0 : OAr Z h0 o0 .byte n_o0 (ci c_o0)) (hr : f3_64 c_o0 n_o0 x1 x7 = some r) :
    OG p e below s (fun v h L => v = (some (.int r)) ∧ Fr n0 L ∧ h = h0) 0 0 T (mkF m 64 #[.val (.ref o0), .val (.int x1), .val (.long d2), .second, .val (.int d4), .val (.int d5), .val (.int d6), .val (.int x7), .val (.int d8), .val (.int d9)] []) := by
  have hr : (if (¬ (x1 < 0) ∧ Int32.toNatClampNeg x1 < n_o0) then (if (c_o0 (Int32.toNatClampNeg x1)) = x7 then (some (1 : Int32)) else (some (0 : Int32))) else none) = some r := hr
  refine o_aload_n X hx (hb hby d3_64) rfl rfl (pc' := 65) rfl ?_
  refine o_iload_n X hx (hb hby d3_65) rfl (pc' := 66) rfl ?_
  by_cases hg6 : (¬ (x1 < 0) ∧ Int32.toNatClampNeg x1 < n_o0)
  case neg => rw [if_neg hg6] at hr; cases hr
  rw [if_pos hg6] at hr
  refine o_baload X hx hZ eT A_o0 (hb hby d3_66) (And.left hg6) (And.right hg6) (c_o0 (Int32.toNatClampNeg x1)) rfl (pc' := 67) rfl ?_
  refine o_iload X hx (hb hby d3_67) rfl (pc' := 69) rfl ?_
  by_cases hc7 : (c_o0 (Int32.toNatClampNeg x1)) = x7
  · rw [if_pos hc7] at hr
    refine o_icmpNo X hx (hb hby d3_69) (c_teq hc7).2 (pc' := 72) rfl ?_
    refine o_iconst X hx (hb hby d3_72) (1 : Int32) rfl (pc' := 73) rfl ?_
    refine o_goto X hx (hb hby d3_73) (pc' := 77) (by decide) (by decide) ?_
    obtain rfl : (1 : Int32) = r := Option.some.inj hr
    exact o_retN X hx hlk (t := .boolean) (by simp) hret (hb hby d3_77) rfl ⟨rfl, N, eT⟩ (by decide) (by decide)
  · rw [if_neg hc7] at hr
    refine o_icmpYes X hx (hb hby d3_69) (c_feq hc7).2 (pc' := 76) (by decide) (by decide) ?_
    refine o_iconst X hx (hb hby d3_76) (0 : Int32) rfl (pc' := 77) rfl ?_
    obtain rfl : (0 : Int32) = r := Option.some.inj hr
    exact o_retN X hx hlk (t := .boolean) (by simp) hret (hb hby d3_77) rfl ⟨rfl, N, eT⟩ (by decide) (by decide)
def f3_59 (c_o0 : (Nat → Int32)) (n_o0 : Nat) (x1 : Int32) (x9 : Int32) : Option (Int32) := (f3_64 c_o0 n_o0 x1 (x9.toInt8.toInt32))
set_option maxRecDepth 65536 in
set_option maxHeartbeats 40000000 in
theorem b3_59 {p : Program} {l : Launch} {e : Env} {s : State} {m : MethodId} {args : Array Value} {below : List Frame} {meth : Method} {c : Code} {Z : State} {a0 : Array Value} {h0 : Heap} {n0 : Nat} (hx : p.tables.exec = Jvm.exec) (hZ : Z.Warmed39 s.vm) (hw : ∀ d ∈ tables_1, d.before a0 Z = true) (hby : c.code = method_4_code) (hml : c.maxLocals = 10) (hown : s.vm.findClass "com/example/libtreegram/libtreegram/io/Leb128PutPinLaw" = some m.cls) (hnm : meth.name = "ok") (hret : meth.sig.returnType = some .boolean) (hlk : meth.locks = false) (o0 : Addr) {T : State} {locs : List Loc} (c_o0 : Nat → Int32) (n_o0 : Nat) (x1 : Int32) (d2 : Int64) (d4 : Int32) (d5 : Int32) (d6 : Int32) (d8 : Int32) (x9 : Int32) (r : Int32) (X : Stand p l e ({ frames := 0, cells := 0, slots := 0, locals := 0 } : Room) s m args below meth c T locs 0 0) (eT : T.heap = h0) (N : Fr n0 locs) (Z0 : n0 ≤ h0.size) (A_o0 : OAr Z h0 o0 .byte n_o0 (ci c_o0)) (hr : f3_59 c_o0 n_o0 x1 x9 = some r) :
    OG p e below s (fun v h L => v = (some (.int r)) ∧ Fr n0 L ∧ h = h0) 0 0 T (mkF m 59 #[.val (.ref o0), .val (.int x1), .val (.long d2), .second, .val (.int d4), .val (.int d5), .val (.int d6), .unset, .val (.int d8), .val (.int x9)] []) := by
  have hr : (f3_64 c_o0 n_o0 x1 (x9.toInt8.toInt32)) = some r := hr
  refine o_iload X hx (hb hby d3_59) rfl (pc' := 61) rfl ?_
  refine o_i2b X hx (hb hby d3_61) (pc' := 62) rfl ?_
  refine o_istore X hx (hb hby d3_62) #[.val (.ref o0), .val (.int x1), .val (.long d2), .second, .val (.int d4), .val (.int d5), .val (.int d6), .val (.int (x9.toInt8.toInt32)), .val (.int d8), .val (.int x9)] rfl (pc' := 64) rfl ?_
  exact b3_64a hx hZ hw hby hml hown hnm hret hlk o0 c_o0 n_o0 x1 d2 d4 d5 d6 (x9.toInt8.toInt32) d8 x9 r X eT N Z0 A_o0 hr
def f3_42 (c_o0 : (Nat → Int32)) (n_o0 : Nat) (x1 : Int32) (x5 : Int32) (x8 : Int32) (x9 : Int32) : Option (Int32) := (if x8 < (x5 - (1 : Int32)) then (f3_59 c_o0 n_o0 x1 (x9 ||| (128 : Int32))) else (f3_59 c_o0 n_o0 x1 x9))
set_option maxRecDepth 65536 in
set_option maxHeartbeats 40000000 in
theorem b3_42 {p : Program} {l : Launch} {e : Env} {s : State} {m : MethodId} {args : Array Value} {below : List Frame} {meth : Method} {c : Code} {Z : State} {a0 : Array Value} {h0 : Heap} {n0 : Nat} (hx : p.tables.exec = Jvm.exec) (hZ : Z.Warmed39 s.vm) (hw : ∀ d ∈ tables_1, d.before a0 Z = true) (hby : c.code = method_4_code) (hml : c.maxLocals = 10) (hown : s.vm.findClass "com/example/libtreegram/libtreegram/io/Leb128PutPinLaw" = some m.cls) (hnm : meth.name = "ok") (hret : meth.sig.returnType = some .boolean) (hlk : meth.locks = false) (o0 : Addr) {T : State} {locs : List Loc} (c_o0 : Nat → Int32) (n_o0 : Nat) (x1 : Int32) (d2 : Int64) (d4 : Int32) (x5 : Int32) (d6 : Int32) (x8 : Int32) (x9 : Int32) (r : Int32) (X : Stand p l e ({ frames := 0, cells := 0, slots := 0, locals := 0 } : Room) s m args below meth c T locs 0 0) (eT : T.heap = h0) (N : Fr n0 locs) (Z0 : n0 ≤ h0.size) (A_o0 : OAr Z h0 o0 .byte n_o0 (ci c_o0)) (hr : f3_42 c_o0 n_o0 x1 x5 x8 x9 = some r) :
    OG p e below s (fun v h L => v = (some (.int r)) ∧ Fr n0 L ∧ h = h0) 0 0 T (mkF m 42 #[.val (.ref o0), .val (.int x1), .val (.long d2), .second, .val (.int d4), .val (.int x5), .val (.int d6), .unset, .val (.int x8), .val (.int x9)] []) := by
  have hr : (if x8 < (x5 - (1 : Int32)) then (f3_59 c_o0 n_o0 x1 (x9 ||| (128 : Int32))) else (f3_59 c_o0 n_o0 x1 x9)) = some r := hr
  refine o_iload X hx (hb hby d3_42) rfl (pc' := 44) rfl ?_
  refine o_iload X hx (hb hby d3_44) rfl (pc' := 46) rfl ?_
  refine o_iconst X hx (hb hby d3_46) (1 : Int32) rfl (pc' := 47) rfl ?_
  refine o_isub X hx (hb hby d3_47) (pc' := 48) rfl ?_
  by_cases hc5 : x8 < (x5 - (1 : Int32))
  · rw [if_pos hc5] at hr
    refine o_icmpNo X hx (hb hby d3_48) (c_tlt hc5).2 (pc' := 51) rfl ?_
    refine o_iload X hx (hb hby d3_51) rfl (pc' := 53) rfl ?_
    refine o_sipush X hx (hb hby d3_53) (128 : Int32) rfl (pc' := 56) rfl ?_
    refine o_ior X hx (hb hby d3_56) (pc' := 57) rfl ?_
    refine o_istore X hx (hb hby d3_57) #[.val (.ref o0), .val (.int x1), .val (.long d2), .second, .val (.int d4), .val (.int x5), .val (.int d6), .unset, .val (.int x8), .val (.int (x9 ||| (128 : Int32)))] rfl (pc' := 59) rfl ?_
    exact b3_59 hx hZ hw hby hml hown hnm hret hlk o0 c_o0 n_o0 x1 d2 d4 x5 d6 x8 (x9 ||| (128 : Int32)) r X eT N Z0 A_o0 hr
  · rw [if_neg hc5] at hr
    refine o_icmpYes X hx (hb hby d3_48) (c_flt hc5).2 (pc' := 59) (by decide) (by decide) ?_
    exact b3_59 hx hZ hw hby hml hown hnm hret hlk o0 c_o0 n_o0 x1 d2 d4 x5 d6 x8 x9 r X eT N Z0 A_o0 hr
def f3_0 (c_o0 : (Nat → Int32)) (n_o0 : Nat) (x1 : Int32) (x2 : Int64) (x4 : Int32) (x5 : Int32) (x6 : Int32) : Option (Int32) := (if x1 < x4 then (f3_15 c_o0 n_o0 x1 x6) else (if x1 < (x4 + x5) then (f3_42 c_o0 n_o0 x1 x5 (x1 - x4) ((((x2.toUInt64 >>> (((7 : Int32) * (x1 - x4)) &&& 0x3f).toInt64.toUInt64).toInt64) &&& (127 : Int64)).toInt32)) else (f3_15 c_o0 n_o0 x1 x6)))
set_option maxRecDepth 65536 in
set_option maxHeartbeats 40000000 in
theorem b3_0 {p : Program} {l : Launch} {e : Env} {s : State} {m : MethodId} {args : Array Value} {below : List Frame} {meth : Method} {c : Code} {Z : State} {a0 : Array Value} {h0 : Heap} {n0 : Nat} (hx : p.tables.exec = Jvm.exec) (hZ : Z.Warmed39 s.vm) (hw : ∀ d ∈ tables_1, d.before a0 Z = true) (hby : c.code = method_4_code) (hml : c.maxLocals = 10) (hown : s.vm.findClass "com/example/libtreegram/libtreegram/io/Leb128PutPinLaw" = some m.cls) (hnm : meth.name = "ok") (hret : meth.sig.returnType = some .boolean) (hlk : meth.locks = false) (o0 : Addr) {T : State} {locs : List Loc} (c_o0 : Nat → Int32) (n_o0 : Nat) (x1 : Int32) (x2 : Int64) (x4 : Int32) (x5 : Int32) (x6 : Int32) (r : Int32) (X : Stand p l e ({ frames := 0, cells := 0, slots := 0, locals := 0 } : Room) s m args below meth c T locs 0 0) (eT : T.heap = h0) (N : Fr n0 locs) (Z0 : n0 ≤ h0.size) (A_o0 : OAr Z h0 o0 .byte n_o0 (ci c_o0)) (hr : f3_0 c_o0 n_o0 x1 x2 x4 x5 x6 = some r) :
    OG p e below s (fun v h L => v = (some (.int r)) ∧ Fr n0 L ∧ h = h0) 0 0 T (mkF m 0 #[.val (.ref o0), .val (.int x1), .val (.long x2), .second, .val (.int x4), .val (.int x5), .val (.int x6), .unset, .unset, .unset] []) := by
  have hr : (if x1 < x4 then (f3_15 c_o0 n_o0 x1 x6) else (if x1 < (x4 + x5) then (f3_42 c_o0 n_o0 x1 x5 (x1 - x4) ((((x2.toUInt64 >>> (((7 : Int32) * (x1 - x4)) &&& 0x3f).toInt64.toUInt64).toInt64) &&& (127 : Int64)).toInt32)) else (f3_15 c_o0 n_o0 x1 x6))) = some r := hr
  refine o_iload_n X hx (hb hby d3_0) rfl (pc' := 1) rfl ?_
  refine o_iload X hx (hb hby d3_1) rfl (pc' := 3) rfl ?_
  by_cases hc1 : x1 < x4
  · rw [if_pos hc1] at hr
    refine o_icmpYes X hx (hb hby d3_3) (c_tlt hc1).1 (pc' := 15) (by decide) (by decide) ?_
    exact b3_15 hx hZ hw hby hml hown hnm hret hlk o0 c_o0 n_o0 x1 x2 x4 x5 x6 r X eT N Z0 A_o0 hr
  · rw [if_neg hc1] at hr
    refine o_icmpNo X hx (hb hby d3_3) (c_flt hc1).1 (pc' := 6) rfl ?_
    refine o_iload_n X hx (hb hby d3_6) rfl (pc' := 7) rfl ?_
    refine o_iload X hx (hb hby d3_7) rfl (pc' := 9) rfl ?_
    refine o_iload X hx (hb hby d3_9) rfl (pc' := 11) rfl ?_
    refine o_iadd X hx (hb hby d3_11) (pc' := 12) rfl ?_
    by_cases hc4 : x1 < (x4 + x5)
    · rw [if_pos hc4] at hr
      refine o_icmpYes X hx (hb hby d3_12) (c_tlt hc4).1 (pc' := 22) (by decide) (by decide) ?_
      refine o_iload_n X hx (hb hby d3_22) rfl (pc' := 23) rfl ?_
      refine o_iload X hx (hb hby d3_23) rfl (pc' := 25) rfl ?_
      refine o_isub X hx (hb hby d3_25) (pc' := 26) rfl ?_
      refine o_istore X hx (hb hby d3_26) #[.val (.ref o0), .val (.int x1), .val (.long x2), .second, .val (.int x4), .val (.int x5), .val (.int x6), .unset, .val (.int (x1 - x4)), .unset] rfl (pc' := 28) rfl ?_
      refine o_lload_n X hx (hb hby d3_28) rfl (pc' := 29) rfl ?_
      refine o_bipush X hx (hb hby d3_29) (7 : Int32) rfl (pc' := 31) rfl ?_
      refine o_iload X hx (hb hby d3_31) rfl (pc' := 33) rfl ?_
      refine o_imul X hx (hb hby d3_33) (pc' := 34) rfl ?_
      refine o_lushr X hx (hb hby d3_34) (pc' := 35) rfl ?_
      refine o_ldc2Long X hx hZ hown (hb hby d3_35) (hw _ (List.mem_of_getElem? (i := 16) rfl)) (pc' := 38) rfl ?_
      refine o_land X hx (hb hby d3_38) (pc' := 39) rfl ?_
      refine o_l2i X hx (hb hby d3_39) (pc' := 40) rfl ?_
      refine o_istore X hx (hb hby d3_40) #[.val (.ref o0), .val (.int x1), .val (.long x2), .second, .val (.int x4), .val (.int x5), .val (.int x6), .unset, .val (.int (x1 - x4)), .val (.int ((((x2.toUInt64 >>> (((7 : Int32) * (x1 - x4)) &&& 0x3f).toInt64.toUInt64).toInt64) &&& (127 : Int64)).toInt32))] rfl (pc' := 42) rfl ?_
      exact b3_42 hx hZ hw hby hml hown hnm hret hlk o0 c_o0 n_o0 x1 x2 x4 x5 x6 (x1 - x4) ((((x2.toUInt64 >>> (((7 : Int32) * (x1 - x4)) &&& 0x3f).toInt64.toUInt64).toInt64) &&& (127 : Int64)).toInt32) r X eT N Z0 A_o0 hr
    · rw [if_neg hc4] at hr
      refine o_icmpNo X hx (hb hby d3_12) (c_flt hc4).1 (pc' := 15) rfl ?_
      exact b3_15 hx hZ hw hby hml hown hnm hret hlk o0 c_o0 n_o0 x1 x2 x4 x5 x6 r X eT N Z0 A_o0 hr
theorem pn_3 : plainName "com/example/libtreegram/libtreegram/io/Leb128PutPinLaw" = true := by first | (simp [plainName, overriddenIn]; done) | decide +kernel
theorem ef_3 (m : MethodId) (o0 : Addr) (x1 : Int32) (x2 : Int64) (x4 : Int32) (x5 : Int32) (x6 : Int32) : entryFrame m #[(.ref o0), (.int x1), (.long x2), (.int x4), (.int x5), (.int x6)] 10 = (mkF m 0 #[.val (.ref o0), .val (.int x1), .val (.long x2), .second, .val (.int x4), .val (.int x5), .val (.int x6), .unset, .unset, .unset] []) := by first | (simp [entryFrame, mkF, argsToLocals, Value.category]; done) | rfl
def Qd3 (Z : State) (h0 : Heap) (n0 : Nat) (o0 : Addr) (x1 : Int32) (x2 : Int64) (x4 : Int32) (x5 : Int32) (x6 : Int32) (c_o0 : Nat → Int32) (n_o0 : Nat) (r : Int32) : Option Value → Heap → List Loc → Prop := (fun v h L => v = (some (.int r)) ∧ Fr n0 L ∧ h = h0)
set_option maxRecDepth 65536 in
set_option maxHeartbeats 40000000 in
theorem rm3 (l : Launch) (Z : State) (a0 : Array Value) (hw : ∀ d ∈ tables_1, d.before a0 Z = true) (ws : List Jvm.Cond) (o0 : Addr) (x1 : Int32) (x2 : Int64) (x4 : Int32) (x5 : Int32) (x6 : Int32) (c_o0 : Nat → Int32) (n_o0 : Nat) (h0 : Heap) (n0 : Nat) (Z0 : n0 ≤ h0.size) (A_o0 : OAr Z h0 o0 .byte n_o0 (ci c_o0)) (r : Int32) (hr : f3_0 c_o0 n_o0 x1 x2 x4 x5 x6 = some r) :
    MetFree l (⟨"com/example/libtreegram/libtreegram/io/Leb128PutPinLaw", "ok", "([BIJIIB)Z"⟩ : MethodName) (head1 (Jvm.Cond.code (⟨"com/example/libtreegram/libtreegram/io/Leb128PutPinLaw", "ok", "([BIJIIB)Z"⟩ : MethodName) method_4_code 10 (some .boolean) :: ws) ({ frames := 0, cells := 0, slots := 0, locals := 0 } : Room)) (fun a U => a = #[(.ref o0), (.int x1), (.long x2), (.int x4), (.int x5), (.int x6)] ∧ Z.Warmed39 U.vm ∧ U.heap = h0) (fun _ _ _ _ _ => True) (fun _ U o U' => ∃ v L, o = .returned v ∧ (Qd3 Z h0 n0 o0 x1 x2 x4 x5 x6 c_o0 n_o0 r) v U'.heap L ∧ FrameEnd U o U' L ({ frames := 0, cells := 0, slots := 0, locals := 0 } : Room).cells ({ frames := 0, cells := 0, slots := 0, locals := 0 } : Room).slots) := by
  refine MetFree.of_bodySF (plainFor_of_name pn_3) hisR ?_
  intro p e s m args below meth c s₁ Bd hml0 hP hK
  obtain ⟨rfl, hZ, hh⟩ := hP
  have e0 : s₁.heap = h0 := by rw [← hh, Bd.state]; rfl
  exact OG.cast (ef_3 m o0 x1 x2 x4 x5 x6) (b3_0 Bd.exec hZ hw Bd.bytes hml0 (findClass_of_methodNamed Bd.named) (name_of_methodNamed Bd.named Bd.method).1 Bd.returns Bd.notSynchronized o0 c_o0 n_o0 x1 x2 x4 x5 x6 r (Stand.of_body Bd) e0 (Fr.nil n0) Z0 A_o0 hr)
theorem pd_0 : parseMethodDescriptor "(J[BI)I" = some ⟨[.long, (.array .byte), .int], some .int⟩ := by decide +kernel
theorem pd_1 : parseMethodDescriptor "(J)I" = some ⟨[.long], some .int⟩ := by decide +kernel
theorem pd_2 : parseMethodDescriptor "([BIJIIB)Z" = some ⟨[(.array .byte), .int, .long, .int, .int, .byte], some .boolean⟩ := by decide +kernel
def f0_26 (x5 : Int64) (x7 : Int32) (x8 : Int32) : Option (Int32) := (Option.bind (f1_0 (li [(nar .byte x8), (nar .byte x8), (nar .byte x8), (nar .byte x8), (nar .byte x8), (nar .byte x8), (nar .byte x8), (nar .byte x8), (nar .byte x8), (nar .byte x8), (nar .byte x8), (nar .byte x8), (nar .byte x8), (nar .byte x8), (nar .byte x8), (nar .byte x8)]) 16 x5 x7) (fun v18 => (if v18.1 = (x7 + (f2_0 x5)) then (Option.bind (f3_0 v18.2 16 (0 : Int32) x5 x7 (f2_0 x5) x8) (fun v21 => (if v21 = (0 : Int32) then (some (0 : Int32)) else (Option.bind (f3_0 v18.2 16 (1 : Int32) x5 x7 (f2_0 x5) x8) (fun v23 => (if v23 = (0 : Int32) then (some (0 : Int32)) else (Option.bind (f3_0 v18.2 16 (2 : Int32) x5 x7 (f2_0 x5) x8) (fun v25 => (if v25 = (0 : Int32) then (some (0 : Int32)) else (Option.bind (f3_0 v18.2 16 (3 : Int32) x5 x7 (f2_0 x5) x8) (fun v27 => (if v27 = (0 : Int32) then (some (0 : Int32)) else (Option.bind (f3_0 v18.2 16 (4 : Int32) x5 x7 (f2_0 x5) x8) (fun v29 => (if v29 = (0 : Int32) then (some (0 : Int32)) else (Option.bind (f3_0 v18.2 16 (5 : Int32) x5 x7 (f2_0 x5) x8) (fun v31 => (if v31 = (0 : Int32) then (some (0 : Int32)) else (Option.bind (f3_0 v18.2 16 (6 : Int32) x5 x7 (f2_0 x5) x8) (fun v33 => (if v33 = (0 : Int32) then (some (0 : Int32)) else (Option.bind (f3_0 v18.2 16 (7 : Int32) x5 x7 (f2_0 x5) x8) (fun v35 => (if v35 = (0 : Int32) then (some (0 : Int32)) else (Option.bind (f3_0 v18.2 16 (8 : Int32) x5 x7 (f2_0 x5) x8) (fun v37 => (if v37 = (0 : Int32) then (some (0 : Int32)) else (Option.bind (f3_0 v18.2 16 (9 : Int32) x5 x7 (f2_0 x5) x8) (fun v39 => (if v39 = (0 : Int32) then (some (0 : Int32)) else (Option.bind (f3_0 v18.2 16 (10 : Int32) x5 x7 (f2_0 x5) x8) (fun v41 => (if v41 = (0 : Int32) then (some (0 : Int32)) else (Option.bind (f3_0 v18.2 16 (11 : Int32) x5 x7 (f2_0 x5) x8) (fun v43 => (if v43 = (0 : Int32) then (some (0 : Int32)) else (Option.bind (f3_0 v18.2 16 (12 : Int32) x5 x7 (f2_0 x5) x8) (fun v45 => (if v45 = (0 : Int32) then (some (0 : Int32)) else (Option.bind (f3_0 v18.2 16 (13 : Int32) x5 x7 (f2_0 x5) x8) (fun v47 => (if v47 = (0 : Int32) then (some (0 : Int32)) else (Option.bind (f3_0 v18.2 16 (14 : Int32) x5 x7 (f2_0 x5) x8) (fun v49 => (if v49 = (0 : Int32) then (some (0 : Int32)) else (Option.bind (f3_0 v18.2 16 (15 : Int32) x5 x7 (f2_0 x5) x8) (fun v51 => (if v51 = (0 : Int32) then (some (0 : Int32)) else (some (1 : Int32)))))))))))))))))))))))))))))))))))))))))))))))))) else (some (0 : Int32)))))
set_option maxRecDepth 65536 in
set_option maxHeartbeats 40000000 in
theorem b0_26 {p : Program} {l : Launch} {e : Env} {s : State} {m : MethodId} {args : Array Value} {below : List Frame} {meth : Method} {c : Code} {Z : State} {a0 : Array Value} {n0 : Nat} (hx : p.tables.exec = Jvm.exec) (hZ : Z.Warmed39 s.vm) (hw : ∀ d ∈ tables_1, d.before a0 Z = true) (hby : c.code = code) (hml : c.maxLocals = 12) (hown : s.vm.findClass "com/example/libtreegram/libtreegram/io/Leb128PutPinLaw" = some m.cls) (hnm : meth.name = "law") (hret : meth.sig.returnType = some .boolean) (hlk : meth.locks = false)  {T : State} {locs : List Loc} {h : Heap} (d0 : Int64) (d2 : Int32) (d3 : Int32) (d4 : Int32) (x5 : Int64) (x7 : Int32) (x8 : Int32) (r : Int32) (X : Stand p l e room_1 s m args below meth c T locs 0 0) (eT : T.heap = h) (N : Fr n0 locs) (hsz : n0 ≤ h.size) (hr : f0_26 x5 x7 x8 = some r) :
    OG p e below s (fun v h L => v = (some (.int r)) ∧ Fr n0 L) 16 128 T (mkF m 26 #[.val (.long d0), .second, .val (.int d2), .val (.int d3), .val (.int d4), .val (.long x5), .second, .val (.int x7), .val (.int x8), .unset, .unset, .unset] []) := by
  have hr : (Option.bind (f1_0 (li [(nar .byte x8), (nar .byte x8), (nar .byte x8), (nar .byte x8), (nar .byte x8), (nar .byte x8), (nar .byte x8), (nar .byte x8), (nar .byte x8), (nar .byte x8), (nar .byte x8), (nar .byte x8), (nar .byte x8), (nar .byte x8), (nar .byte x8), (nar .byte x8)]) 16 x5 x7) (fun v18 => (if v18.1 = (x7 + (f2_0 x5)) then (Option.bind (f3_0 v18.2 16 (0 : Int32) x5 x7 (f2_0 x5) x8) (fun v21 => (if v21 = (0 : Int32) then (some (0 : Int32)) else (Option.bind (f3_0 v18.2 16 (1 : Int32) x5 x7 (f2_0 x5) x8) (fun v23 => (if v23 = (0 : Int32) then (some (0 : Int32)) else (Option.bind (f3_0 v18.2 16 (2 : Int32) x5 x7 (f2_0 x5) x8) (fun v25 => (if v25 = (0 : Int32) then (some (0 : Int32)) else (Option.bind (f3_0 v18.2 16 (3 : Int32) x5 x7 (f2_0 x5) x8) (fun v27 => (if v27 = (0 : Int32) then (some (0 : Int32)) else (Option.bind (f3_0 v18.2 16 (4 : Int32) x5 x7 (f2_0 x5) x8) (fun v29 => (if v29 = (0 : Int32) then (some (0 : Int32)) else (Option.bind (f3_0 v18.2 16 (5 : Int32) x5 x7 (f2_0 x5) x8) (fun v31 => (if v31 = (0 : Int32) then (some (0 : Int32)) else (Option.bind (f3_0 v18.2 16 (6 : Int32) x5 x7 (f2_0 x5) x8) (fun v33 => (if v33 = (0 : Int32) then (some (0 : Int32)) else (Option.bind (f3_0 v18.2 16 (7 : Int32) x5 x7 (f2_0 x5) x8) (fun v35 => (if v35 = (0 : Int32) then (some (0 : Int32)) else (Option.bind (f3_0 v18.2 16 (8 : Int32) x5 x7 (f2_0 x5) x8) (fun v37 => (if v37 = (0 : Int32) then (some (0 : Int32)) else (Option.bind (f3_0 v18.2 16 (9 : Int32) x5 x7 (f2_0 x5) x8) (fun v39 => (if v39 = (0 : Int32) then (some (0 : Int32)) else (Option.bind (f3_0 v18.2 16 (10 : Int32) x5 x7 (f2_0 x5) x8) (fun v41 => (if v41 = (0 : Int32) then (some (0 : Int32)) else (Option.bind (f3_0 v18.2 16 (11 : Int32) x5 x7 (f2_0 x5) x8) (fun v43 => (if v43 = (0 : Int32) then (some (0 : Int32)) else (Option.bind (f3_0 v18.2 16 (12 : Int32) x5 x7 (f2_0 x5) x8) (fun v45 => (if v45 = (0 : Int32) then (some (0 : Int32)) else (Option.bind (f3_0 v18.2 16 (13 : Int32) x5 x7 (f2_0 x5) x8) (fun v47 => (if v47 = (0 : Int32) then (some (0 : Int32)) else (Option.bind (f3_0 v18.2 16 (14 : Int32) x5 x7 (f2_0 x5) x8) (fun v49 => (if v49 = (0 : Int32) then (some (0 : Int32)) else (Option.bind (f3_0 v18.2 16 (15 : Int32) x5 x7 (f2_0 x5) x8) (fun v51 => (if v51 = (0 : Int32) then (some (0 : Int32)) else (some (1 : Int32)))))))))))))))))))))))))))))))))))))))))))))))))) else (some (0 : Int32))))) = some r := hr
  refine o_bipush X hx (hb hby at_26) (16 : Int32) rfl (pc' := 28) rfl ?_
  refine o_newarr X hx hZ eT (hw _ (List.mem_of_getElem? (i := 2) rfl)) (hb hby at_28) (by decide) 16 (by decide) (by decide) (by decide) (by decide) (pc' := 30) rfl ?_
  intro T1 h1 a1 X1 e1 q1 E1 A1
  have g1 : n0 ≤ a1 := Nat.le_trans hsz (Nat.le_of_eq q1.symm)
  have z1 : n0 ≤ h1.size := Nat.le_trans hsz E1.1
  replace A1 : OAr Z h1 a1 .byte 16 (ci (li [(0 : Int32), (0 : Int32), (0 : Int32), (0 : Int32), (0 : Int32), (0 : Int32), (0 : Int32), (0 : Int32), (0 : Int32), (0 : Int32), (0 : Int32), (0 : Int32), (0 : Int32), (0 : Int32), (0 : Int32), (0 : Int32)])) := OAr.zeros (k := 16) A1
  refine o_dup X1 hx (hb hby at_30) rfl (pc' := 31) rfl ?_
  refine o_iconst X1 hx (hb hby at_31) (0 : Int32) rfl (pc' := 32) rfl ?_
  refine o_iload X1 hx (hb hby at_32) rfl (pc' := 34) rfl ?_
  refine o_bastore X1 hx hZ e1 A1 (hb hby at_34) (by decide) (by decide) (pc' := 35) rfl ?_
  intro T2 h2 X2 e2 W2
  have A2 : OAr Z h2 a1 .byte 16 (ci (li [(nar .byte x8), (0 : Int32), (0 : Int32), (0 : Int32), (0 : Int32), (0 : Int32), (0 : Int32), (0 : Int32), (0 : Int32), (0 : Int32), (0 : Int32), (0 : Int32), (0 : Int32), (0 : Int32), (0 : Int32), (0 : Int32)])) := OAr.setI (j := 0) (x := (nar .byte x8)) W2 A1 (Nat.le_of_ble_eq_true rfl)
  have N2 := Fr.snoc X2 N g1
  have z2 : n0 ≤ h2.size := Nat.le_trans z1 (Keep.of_wr W2).1
  refine o_dup X2 hx (hb hby at_35) rfl (pc' := 36) rfl ?_
  refine o_iconst X2 hx (hb hby at_36) (1 : Int32) rfl (pc' := 37) rfl ?_
  refine o_iload X2 hx (hb hby at_37) rfl (pc' := 39) rfl ?_
  refine o_bastore X2 hx hZ e2 A2 (hb hby at_39) (by decide) (by decide) (pc' := 40) rfl ?_
  intro T3 h3 X3 e3 W3
  have A3 : OAr Z h3 a1 .byte 16 (ci (li [(nar .byte x8), (nar .byte x8), (0 : Int32), (0 : Int32), (0 : Int32), (0 : Int32), (0 : Int32), (0 : Int32), (0 : Int32), (0 : Int32), (0 : Int32), (0 : Int32), (0 : Int32), (0 : Int32), (0 : Int32), (0 : Int32)])) := OAr.setI (j := 1) (x := (nar .byte x8)) W3 A2 (Nat.le_of_ble_eq_true rfl)
  have N3 := Fr.snoc X3 N2 g1
  have z3 : n0 ≤ h3.size := Nat.le_trans z2 (Keep.of_wr W3).1
  refine o_dup X3 hx (hb hby at_40) rfl (pc' := 41) rfl ?_
  refine o_iconst X3 hx (hb hby at_41) (2 : Int32) rfl (pc' := 42) rfl ?_
  refine o_iload X3 hx (hb hby at_42) rfl (pc' := 44) rfl ?_
  refine o_bastore X3 hx hZ e3 A3 (hb hby at_44) (by decide) (by decide) (pc' := 45) rfl ?_
  intro T4 h4 X4 e4 W4
  have A4 : OAr Z h4 a1 .byte 16 (ci (li [(nar .byte x8), (nar .byte x8), (nar .byte x8), (0 : Int32), (0 : Int32), (0 : Int32), (0 : Int32), (0 : Int32), (0 : Int32), (0 : Int32), (0 : Int32), (0 : Int32), (0 : Int32), (0 : Int32), (0 : Int32), (0 : Int32)])) := OAr.setI (j := 2) (x := (nar .byte x8)) W4 A3 (Nat.le_of_ble_eq_true rfl)
  have N4 := Fr.snoc X4 N3 g1
  have z4 : n0 ≤ h4.size := Nat.le_trans z3 (Keep.of_wr W4).1
  refine o_dup X4 hx (hb hby at_45) rfl (pc' := 46) rfl ?_
  refine o_iconst X4 hx (hb hby at_46) (3 : Int32) rfl (pc' := 47) rfl ?_
  refine o_iload X4 hx (hb hby at_47) rfl (pc' := 49) rfl ?_
  refine o_bastore X4 hx hZ e4 A4 (hb hby at_49) (by decide) (by decide) (pc' := 50) rfl ?_
  intro T5 h5 X5 e5 W5
  have A5 : OAr Z h5 a1 .byte 16 (ci (li [(nar .byte x8), (nar .byte x8), (nar .byte x8), (nar .byte x8), (0 : Int32), (0 : Int32), (0 : Int32), (0 : Int32), (0 : Int32), (0 : Int32), (0 : Int32), (0 : Int32), (0 : Int32), (0 : Int32), (0 : Int32), (0 : Int32)])) := OAr.setI (j := 3) (x := (nar .byte x8)) W5 A4 (Nat.le_of_ble_eq_true rfl)
  have N5 := Fr.snoc X5 N4 g1
  have z5 : n0 ≤ h5.size := Nat.le_trans z4 (Keep.of_wr W5).1
  refine o_dup X5 hx (hb hby at_50) rfl (pc' := 51) rfl ?_
  refine o_iconst X5 hx (hb hby at_51) (4 : Int32) rfl (pc' := 52) rfl ?_
  refine o_iload X5 hx (hb hby at_52) rfl (pc' := 54) rfl ?_
  refine o_bastore X5 hx hZ e5 A5 (hb hby at_54) (by decide) (by decide) (pc' := 55) rfl ?_
  intro T6 h6 X6 e6 W6
  have A6 : OAr Z h6 a1 .byte 16 (ci (li [(nar .byte x8), (nar .byte x8), (nar .byte x8), (nar .byte x8), (nar .byte x8), (0 : Int32), (0 : Int32), (0 : Int32), (0 : Int32), (0 : Int32), (0 : Int32), (0 : Int32), (0 : Int32), (0 : Int32), (0 : Int32), (0 : Int32)])) := OAr.setI (j := 4) (x := (nar .byte x8)) W6 A5 (Nat.le_of_ble_eq_true rfl)
  have N6 := Fr.snoc X6 N5 g1
  have z6 : n0 ≤ h6.size := Nat.le_trans z5 (Keep.of_wr W6).1
  refine o_dup X6 hx (hb hby at_55) rfl (pc' := 56) rfl ?_
  refine o_iconst X6 hx (hb hby at_56) (5 : Int32) rfl (pc' := 57) rfl ?_
  refine o_iload X6 hx (hb hby at_57) rfl (pc' := 59) rfl ?_
  refine o_bastore X6 hx hZ e6 A6 (hb hby at_59) (by decide) (by decide) (pc' := 60) rfl ?_
  intro T7 h7 X7 e7 W7
  have A7 : OAr Z h7 a1 .byte 16 (ci (li [(nar .byte x8), (nar .byte x8), (nar .byte x8), (nar .byte x8), (nar .byte x8), (nar .byte x8), (0 : Int32), (0 : Int32), (0 : Int32), (0 : Int32), (0 : Int32), (0 : Int32), (0 : Int32), (0 : Int32), (0 : Int32), (0 : Int32)])) := OAr.setI (j := 5) (x := (nar .byte x8)) W7 A6 (Nat.le_of_ble_eq_true rfl)
  have N7 := Fr.snoc X7 N6 g1
  have z7 : n0 ≤ h7.size := Nat.le_trans z6 (Keep.of_wr W7).1
  refine o_dup X7 hx (hb hby at_60) rfl (pc' := 61) rfl ?_
  refine o_bipush X7 hx (hb hby at_61) (6 : Int32) rfl (pc' := 63) rfl ?_
  refine o_iload X7 hx (hb hby at_63) rfl (pc' := 65) rfl ?_
  refine o_bastore X7 hx hZ e7 A7 (hb hby at_65) (by decide) (by decide) (pc' := 66) rfl ?_
  intro T8 h8 X8 e8 W8
  have A8 : OAr Z h8 a1 .byte 16 (ci (li [(nar .byte x8), (nar .byte x8), (nar .byte x8), (nar .byte x8), (nar .byte x8), (nar .byte x8), (nar .byte x8), (0 : Int32), (0 : Int32), (0 : Int32), (0 : Int32), (0 : Int32), (0 : Int32), (0 : Int32), (0 : Int32), (0 : Int32)])) := OAr.setI (j := 6) (x := (nar .byte x8)) W8 A7 (Nat.le_of_ble_eq_true rfl)
  have N8 := Fr.snoc X8 N7 g1
  have z8 : n0 ≤ h8.size := Nat.le_trans z7 (Keep.of_wr W8).1
  refine o_dup X8 hx (hb hby at_66) rfl (pc' := 67) rfl ?_
  refine o_bipush X8 hx (hb hby at_67) (7 : Int32) rfl (pc' := 69) rfl ?_
  refine o_iload X8 hx (hb hby at_69) rfl (pc' := 71) rfl ?_
  refine o_bastore X8 hx hZ e8 A8 (hb hby at_71) (by decide) (by decide) (pc' := 72) rfl ?_
  intro T9 h9 X9 e9 W9
  have A9 : OAr Z h9 a1 .byte 16 (ci (li [(nar .byte x8), (nar .byte x8), (nar .byte x8), (nar .byte x8), (nar .byte x8), (nar .byte x8), (nar .byte x8), (nar .byte x8), (0 : Int32), (0 : Int32), (0 : Int32), (0 : Int32), (0 : Int32), (0 : Int32), (0 : Int32), (0 : Int32)])) := OAr.setI (j := 7) (x := (nar .byte x8)) W9 A8 (Nat.le_of_ble_eq_true rfl)
  have N9 := Fr.snoc X9 N8 g1
  have z9 : n0 ≤ h9.size := Nat.le_trans z8 (Keep.of_wr W9).1
  refine o_dup X9 hx (hb hby at_72) rfl (pc' := 73) rfl ?_
  refine o_bipush X9 hx (hb hby at_73) (8 : Int32) rfl (pc' := 75) rfl ?_
  refine o_iload X9 hx (hb hby at_75) rfl (pc' := 77) rfl ?_
  refine o_bastore X9 hx hZ e9 A9 (hb hby at_77) (by decide) (by decide) (pc' := 78) rfl ?_
  intro T10 h10 X10 e10 W10
  have A10 : OAr Z h10 a1 .byte 16 (ci (li [(nar .byte x8), (nar .byte x8), (nar .byte x8), (nar .byte x8), (nar .byte x8), (nar .byte x8), (nar .byte x8), (nar .byte x8), (nar .byte x8), (0 : Int32), (0 : Int32), (0 : Int32), (0 : Int32), (0 : Int32), (0 : Int32), (0 : Int32)])) := OAr.setI (j := 8) (x := (nar .byte x8)) W10 A9 (Nat.le_of_ble_eq_true rfl)
  have N10 := Fr.snoc X10 N9 g1
  have z10 : n0 ≤ h10.size := Nat.le_trans z9 (Keep.of_wr W10).1
  refine o_dup X10 hx (hb hby at_78) rfl (pc' := 79) rfl ?_
  refine o_bipush X10 hx (hb hby at_79) (9 : Int32) rfl (pc' := 81) rfl ?_
  refine o_iload X10 hx (hb hby at_81) rfl (pc' := 83) rfl ?_
  refine o_bastore X10 hx hZ e10 A10 (hb hby at_83) (by decide) (by decide) (pc' := 84) rfl ?_
  intro T11 h11 X11 e11 W11
  have A11 : OAr Z h11 a1 .byte 16 (ci (li [(nar .byte x8), (nar .byte x8), (nar .byte x8), (nar .byte x8), (nar .byte x8), (nar .byte x8), (nar .byte x8), (nar .byte x8), (nar .byte x8), (nar .byte x8), (0 : Int32), (0 : Int32), (0 : Int32), (0 : Int32), (0 : Int32), (0 : Int32)])) := OAr.setI (j := 9) (x := (nar .byte x8)) W11 A10 (Nat.le_of_ble_eq_true rfl)
  have N11 := Fr.snoc X11 N10 g1
  have z11 : n0 ≤ h11.size := Nat.le_trans z10 (Keep.of_wr W11).1
  refine o_dup X11 hx (hb hby at_84) rfl (pc' := 85) rfl ?_
  refine o_bipush X11 hx (hb hby at_85) (10 : Int32) rfl (pc' := 87) rfl ?_
  refine o_iload X11 hx (hb hby at_87) rfl (pc' := 89) rfl ?_
  refine o_bastore X11 hx hZ e11 A11 (hb hby at_89) (by decide) (by decide) (pc' := 90) rfl ?_
  intro T12 h12 X12 e12 W12
  have A12 : OAr Z h12 a1 .byte 16 (ci (li [(nar .byte x8), (nar .byte x8), (nar .byte x8), (nar .byte x8), (nar .byte x8), (nar .byte x8), (nar .byte x8), (nar .byte x8), (nar .byte x8), (nar .byte x8), (nar .byte x8), (0 : Int32), (0 : Int32), (0 : Int32), (0 : Int32), (0 : Int32)])) := OAr.setI (j := 10) (x := (nar .byte x8)) W12 A11 (Nat.le_of_ble_eq_true rfl)
  have N12 := Fr.snoc X12 N11 g1
  have z12 : n0 ≤ h12.size := Nat.le_trans z11 (Keep.of_wr W12).1
  refine o_dup X12 hx (hb hby at_90) rfl (pc' := 91) rfl ?_
  refine o_bipush X12 hx (hb hby at_91) (11 : Int32) rfl (pc' := 93) rfl ?_
  refine o_iload X12 hx (hb hby at_93) rfl (pc' := 95) rfl ?_
  refine o_bastore X12 hx hZ e12 A12 (hb hby at_95) (by decide) (by decide) (pc' := 96) rfl ?_
  intro T13 h13 X13 e13 W13
  have A13 : OAr Z h13 a1 .byte 16 (ci (li [(nar .byte x8), (nar .byte x8), (nar .byte x8), (nar .byte x8), (nar .byte x8), (nar .byte x8), (nar .byte x8), (nar .byte x8), (nar .byte x8), (nar .byte x8), (nar .byte x8), (nar .byte x8), (0 : Int32), (0 : Int32), (0 : Int32), (0 : Int32)])) := OAr.setI (j := 11) (x := (nar .byte x8)) W13 A12 (Nat.le_of_ble_eq_true rfl)
  have N13 := Fr.snoc X13 N12 g1
  have z13 : n0 ≤ h13.size := Nat.le_trans z12 (Keep.of_wr W13).1
  refine o_dup X13 hx (hb hby at_96) rfl (pc' := 97) rfl ?_
  refine o_bipush X13 hx (hb hby at_97) (12 : Int32) rfl (pc' := 99) rfl ?_
  refine o_iload X13 hx (hb hby at_99) rfl (pc' := 101) rfl ?_
  refine o_bastore X13 hx hZ e13 A13 (hb hby at_101) (by decide) (by decide) (pc' := 102) rfl ?_
  intro T14 h14 X14 e14 W14
  have A14 : OAr Z h14 a1 .byte 16 (ci (li [(nar .byte x8), (nar .byte x8), (nar .byte x8), (nar .byte x8), (nar .byte x8), (nar .byte x8), (nar .byte x8), (nar .byte x8), (nar .byte x8), (nar .byte x8), (nar .byte x8), (nar .byte x8), (nar .byte x8), (0 : Int32), (0 : Int32), (0 : Int32)])) := OAr.setI (j := 12) (x := (nar .byte x8)) W14 A13 (Nat.le_of_ble_eq_true rfl)
  have N14 := Fr.snoc X14 N13 g1
  have z14 : n0 ≤ h14.size := Nat.le_trans z13 (Keep.of_wr W14).1
  refine o_dup X14 hx (hb hby at_102) rfl (pc' := 103) rfl ?_
  refine o_bipush X14 hx (hb hby at_103) (13 : Int32) rfl (pc' := 105) rfl ?_
  refine o_iload X14 hx (hb hby at_105) rfl (pc' := 107) rfl ?_
  refine o_bastore X14 hx hZ e14 A14 (hb hby at_107) (by decide) (by decide) (pc' := 108) rfl ?_
  intro T15 h15 X15 e15 W15
  have A15 : OAr Z h15 a1 .byte 16 (ci (li [(nar .byte x8), (nar .byte x8), (nar .byte x8), (nar .byte x8), (nar .byte x8), (nar .byte x8), (nar .byte x8), (nar .byte x8), (nar .byte x8), (nar .byte x8), (nar .byte x8), (nar .byte x8), (nar .byte x8), (nar .byte x8), (0 : Int32), (0 : Int32)])) := OAr.setI (j := 13) (x := (nar .byte x8)) W15 A14 (Nat.le_of_ble_eq_true rfl)
  have N15 := Fr.snoc X15 N14 g1
  have z15 : n0 ≤ h15.size := Nat.le_trans z14 (Keep.of_wr W15).1
  refine o_dup X15 hx (hb hby at_108) rfl (pc' := 109) rfl ?_
  refine o_bipush X15 hx (hb hby at_109) (14 : Int32) rfl (pc' := 111) rfl ?_
  refine o_iload X15 hx (hb hby at_111) rfl (pc' := 113) rfl ?_
  refine o_bastore X15 hx hZ e15 A15 (hb hby at_113) (by decide) (by decide) (pc' := 114) rfl ?_
  intro T16 h16 X16 e16 W16
  have A16 : OAr Z h16 a1 .byte 16 (ci (li [(nar .byte x8), (nar .byte x8), (nar .byte x8), (nar .byte x8), (nar .byte x8), (nar .byte x8), (nar .byte x8), (nar .byte x8), (nar .byte x8), (nar .byte x8), (nar .byte x8), (nar .byte x8), (nar .byte x8), (nar .byte x8), (nar .byte x8), (0 : Int32)])) := OAr.setI (j := 14) (x := (nar .byte x8)) W16 A15 (Nat.le_of_ble_eq_true rfl)
  have N16 := Fr.snoc X16 N15 g1
  have z16 : n0 ≤ h16.size := Nat.le_trans z15 (Keep.of_wr W16).1
  refine o_dup X16 hx (hb hby at_114) rfl (pc' := 115) rfl ?_
  refine o_bipush X16 hx (hb hby at_115) (15 : Int32) rfl (pc' := 117) rfl ?_
  refine o_iload X16 hx (hb hby at_117) rfl (pc' := 119) rfl ?_
  refine o_bastore X16 hx hZ e16 A16 (hb hby at_119) (by decide) (by decide) (pc' := 120) rfl ?_
  intro T17 h17 X17 e17 W17
  have A17 : OAr Z h17 a1 .byte 16 (ci (li [(nar .byte x8), (nar .byte x8), (nar .byte x8), (nar .byte x8), (nar .byte x8), (nar .byte x8), (nar .byte x8), (nar .byte x8), (nar .byte x8), (nar .byte x8), (nar .byte x8), (nar .byte x8), (nar .byte x8), (nar .byte x8), (nar .byte x8), (nar .byte x8)])) := OAr.setI (j := 15) (x := (nar .byte x8)) W17 A16 (Nat.le_of_ble_eq_true rfl)
  have N17 := Fr.snoc X17 N16 g1
  have z17 : n0 ≤ h17.size := Nat.le_trans z16 (Keep.of_wr W17).1
  refine o_astore X17 hx (hb hby at_120) rfl #[.val (.long d0), .second, .val (.int d2), .val (.int d3), .val (.int d4), .val (.long x5), .second, .val (.int x7), .val (.int x8), .val (.ref a1), .unset, .unset] rfl (pc' := 122) rfl ?_
  refine o_lload X17 hx (hb hby at_122) rfl (pc' := 124) rfl ?_
  refine o_aload X17 hx (hb hby at_124) rfl rfl (pc' := 126) rfl ?_
  refine o_iload X17 hx (hb hby at_126) rfl (pc' := 128) rfl ?_
  rcases hq18 : f1_0 (li [(nar .byte x8), (nar .byte x8), (nar .byte x8), (nar .byte x8), (nar .byte x8), (nar .byte x8), (nar .byte x8), (nar .byte x8), (nar .byte x8), (nar .byte x8), (nar .byte x8), (nar .byte x8), (nar .byte x8), (nar .byte x8), (nar .byte x8), (nar .byte x8)]) 16 x5 x7 with _ | v18
  · rw [hq18] at hr; cases hr
  rw [hq18] at hr
  dsimp only [Option.bind] at hr
  refine o_callS X17 hx hZ (argsL := [(.long x5), (.ref a1), (.int x7)]) (rest := []) 0 hown e17 (hw _ (List.mem_of_getElem? (i := 3) rfl)) (hw _ (List.mem_of_getElem? (i := 4) rfl)) (hw _ (List.mem_of_getElem? (i := 5) rfl)) (hw _ (List.mem_of_getElem? (i := 6) rfl)) (by decide) (rm1 l Z a0 hw [] x5 a1 x7 (li [(nar .byte x8), (nar .byte x8), (nar .byte x8), (nar .byte x8), (nar .byte x8), (nar .byte x8), (nar .byte x8), (nar .byte x8), (nar .byte x8), (nar .byte x8), (nar .byte x8), (nar .byte x8), (nar .byte x8), (nar .byte x8), (nar .byte x8), (nar .byte x8)]) 16 h17 n0 z17 A17 g1 v18 hq18) (by decide) (by decide) (by rw [hml]; rfl) (lenOf pd_0 rfl) rfl (Nat.le_refl _) (hb hby at_128) (pc' := 131) rfl (by decide) (by decide) ?_
  rintro _ T18 L18 X18 ⟨rfl, N18, K18, C18_o2⟩
  replace X18 : Stand p l e room_1 s m args below meth c T18 (((((((((((((((((locs ++ [⟨a1, Int32.toNatClampNeg (0 : Int32)⟩]) ++ [⟨a1, Int32.toNatClampNeg (1 : Int32)⟩]) ++ [⟨a1, Int32.toNatClampNeg (2 : Int32)⟩]) ++ [⟨a1, Int32.toNatClampNeg (3 : Int32)⟩]) ++ [⟨a1, Int32.toNatClampNeg (4 : Int32)⟩]) ++ [⟨a1, Int32.toNatClampNeg (5 : Int32)⟩]) ++ [⟨a1, Int32.toNatClampNeg (6 : Int32)⟩]) ++ [⟨a1, Int32.toNatClampNeg (7 : Int32)⟩]) ++ [⟨a1, Int32.toNatClampNeg (8 : Int32)⟩]) ++ [⟨a1, Int32.toNatClampNeg (9 : Int32)⟩]) ++ [⟨a1, Int32.toNatClampNeg (10 : Int32)⟩]) ++ [⟨a1, Int32.toNatClampNeg (11 : Int32)⟩]) ++ [⟨a1, Int32.toNatClampNeg (12 : Int32)⟩]) ++ [⟨a1, Int32.toNatClampNeg (13 : Int32)⟩]) ++ [⟨a1, Int32.toNatClampNeg (14 : Int32)⟩]) ++ [⟨a1, Int32.toNatClampNeg (15 : Int32)⟩]) ++ L18) 1 16 := X18
  have M18 := Fr.app N17 N18
  dsimp only [Option.toList, List.cons_append, List.nil_append]
  have z18 : n0 ≤ T18.heap.size := Nat.le_trans z17 K18.1
  refine o_istore X18 hx (hb hby at_131) #[.val (.long d0), .second, .val (.int d2), .val (.int d3), .val (.int d4), .val (.long x5), .second, .val (.int x7), .val (.int x8), .val (.ref a1), .val (.int v18.1), .unset] rfl (pc' := 133) rfl ?_
  refine o_lload X18 hx (hb hby at_133) rfl (pc' := 135) rfl ?_
  refine o_callS X18 hx hZ (argsL := [(.long x5)]) (rest := []) 0 hown (rfl : T18.heap = T18.heap) (hw _ (List.mem_of_getElem? (i := 8) rfl)) (hw _ (List.mem_of_getElem? (i := 9) rfl)) (hw _ (List.mem_of_getElem? (i := 10) rfl)) (hw _ (List.mem_of_getElem? (i := 11) rfl)) (by decide) (rm2 l Z a0 hw [] x5 T18.heap n0 z18 (f2_0 x5) rfl) (by decide) (by decide) (by rw [hml]; rfl) (lenOf pd_1 rfl) rfl (Nat.le_refl _) (hb hby at_135) (pc' := 138) rfl (by decide) (by decide) ?_
  rintro _ T19 L19 X19 ⟨rfl, N19, e19⟩
  replace X19 : Stand p l e room_1 s m args below meth c T19 ((((((((((((((((((locs ++ [⟨a1, Int32.toNatClampNeg (0 : Int32)⟩]) ++ [⟨a1, Int32.toNatClampNeg (1 : Int32)⟩]) ++ [⟨a1, Int32.toNatClampNeg (2 : Int32)⟩]) ++ [⟨a1, Int32.toNatClampNeg (3 : Int32)⟩]) ++ [⟨a1, Int32.toNatClampNeg (4 : Int32)⟩]) ++ [⟨a1, Int32.toNatClampNeg (5 : Int32)⟩]) ++ [⟨a1, Int32.toNatClampNeg (6 : Int32)⟩]) ++ [⟨a1, Int32.toNatClampNeg (7 : Int32)⟩]) ++ [⟨a1, Int32.toNatClampNeg (8 : Int32)⟩]) ++ [⟨a1, Int32.toNatClampNeg (9 : Int32)⟩]) ++ [⟨a1, Int32.toNatClampNeg (10 : Int32)⟩]) ++ [⟨a1, Int32.toNatClampNeg (11 : Int32)⟩]) ++ [⟨a1, Int32.toNatClampNeg (12 : Int32)⟩]) ++ [⟨a1, Int32.toNatClampNeg (13 : Int32)⟩]) ++ [⟨a1, Int32.toNatClampNeg (14 : Int32)⟩]) ++ [⟨a1, Int32.toNatClampNeg (15 : Int32)⟩]) ++ L18) ++ L19) 1 16 := X19
  have M19 := Fr.app M18 N19
  dsimp only [Option.toList, List.cons_append, List.nil_append]
  refine o_istore X19 hx (hb hby at_138) #[.val (.long d0), .second, .val (.int d2), .val (.int d3), .val (.int d4), .val (.long x5), .second, .val (.int x7), .val (.int x8), .val (.ref a1), .val (.int v18.1), .val (.int (f2_0 x5))] rfl (pc' := 140) rfl ?_
  refine o_iload X19 hx (hb hby at_140) rfl (pc' := 142) rfl ?_
  refine o_iload X19 hx (hb hby at_142) rfl (pc' := 144) rfl ?_
  refine o_iload X19 hx (hb hby at_144) rfl (pc' := 146) rfl ?_
  refine o_iadd X19 hx (hb hby at_146) (pc' := 147) rfl ?_
  by_cases hc20 : v18.1 = (x7 + (f2_0 x5))
  · rw [if_pos hc20] at hr
    refine o_icmpYes X19 hx (hb hby at_147) (c_teq hc20).1 (pc' := 152) (by decide) (by decide) ?_
    refine o_aload X19 hx (hb hby at_152) rfl rfl (pc' := 154) rfl ?_
    refine o_iconst X19 hx (hb hby at_154) (0 : Int32) rfl (pc' := 155) rfl ?_
    refine o_lload X19 hx (hb hby at_155) rfl (pc' := 157) rfl ?_
    refine o_iload X19 hx (hb hby at_157) rfl (pc' := 159) rfl ?_
    refine o_iload X19 hx (hb hby at_159) rfl (pc' := 161) rfl ?_
    refine o_iload X19 hx (hb hby at_161) rfl (pc' := 163) rfl ?_
    rcases hq21 : f3_0 v18.2 16 (0 : Int32) x5 x7 (f2_0 x5) x8 with _ | v21
    · rw [hq21] at hr; cases hr
    rw [hq21] at hr
    dsimp only [Option.bind] at hr
    refine o_callS X19 hx hZ (argsL := [(.ref a1), (.int (0 : Int32)), (.long x5), (.int x7), (.int (f2_0 x5)), (.int x8)]) (rest := []) 0 hown e19 (hw _ (List.mem_of_getElem? (i := 13) rfl)) (hw _ (List.mem_of_getElem? (i := 14) rfl)) (hw _ (List.mem_of_getElem? (i := 10) rfl)) (hw _ (List.mem_of_getElem? (i := 15) rfl)) (by decide) (rm3 l Z a0 hw [] a1 (0 : Int32) x5 x7 (f2_0 x5) x8 v18.2 16 T18.heap n0 z18 C18_o2 v21 hq21) (by decide) (by decide) (by rw [hml]; rfl) (lenOf pd_2 rfl) rfl (Nat.le_refl _) (hb hby at_163) (pc' := 166) rfl (by decide) (by decide) ?_
    rintro _ T21 L21 X21 ⟨rfl, N21, e21⟩
    replace X21 : Stand p l e room_1 s m args below meth c T21 (((((((((((((((((((locs ++ [⟨a1, Int32.toNatClampNeg (0 : Int32)⟩]) ++ [⟨a1, Int32.toNatClampNeg (1 : Int32)⟩]) ++ [⟨a1, Int32.toNatClampNeg (2 : Int32)⟩]) ++ [⟨a1, Int32.toNatClampNeg (3 : Int32)⟩]) ++ [⟨a1, Int32.toNatClampNeg (4 : Int32)⟩]) ++ [⟨a1, Int32.toNatClampNeg (5 : Int32)⟩]) ++ [⟨a1, Int32.toNatClampNeg (6 : Int32)⟩]) ++ [⟨a1, Int32.toNatClampNeg (7 : Int32)⟩]) ++ [⟨a1, Int32.toNatClampNeg (8 : Int32)⟩]) ++ [⟨a1, Int32.toNatClampNeg (9 : Int32)⟩]) ++ [⟨a1, Int32.toNatClampNeg (10 : Int32)⟩]) ++ [⟨a1, Int32.toNatClampNeg (11 : Int32)⟩]) ++ [⟨a1, Int32.toNatClampNeg (12 : Int32)⟩]) ++ [⟨a1, Int32.toNatClampNeg (13 : Int32)⟩]) ++ [⟨a1, Int32.toNatClampNeg (14 : Int32)⟩]) ++ [⟨a1, Int32.toNatClampNeg (15 : Int32)⟩]) ++ L18) ++ L19) ++ L21) 1 16 := X21
    have M21 := Fr.app M19 N21
    dsimp only [Option.toList, List.cons_append, List.nil_append]
    by_cases hc22 : v21 = (0 : Int32)
    · rw [if_pos hc22] at hr
      refine o_ifYes X21 hx (hb hby at_166) (z_teq hc22).1 (pc' := 438) (by decide) (by decide) ?_
      refine o_iconst X21 hx (hb hby at_438) (0 : Int32) rfl (pc' := 439) rfl ?_
      obtain rfl : (0 : Int32) = r := Option.some.inj hr
      exact o_retN X21 hx hlk (t := .boolean) (by simp) hret (hb hby at_439) rfl ⟨rfl, M21⟩ (by decide) (by decide)
    · rw [if_neg hc22] at hr
      refine o_ifNo X21 hx (hb hby at_166) (z_feq hc22).1 (pc' := 169) rfl ?_
      refine o_aload X21 hx (hb hby at_169) rfl rfl (pc' := 171) rfl ?_
      refine o_iconst X21 hx (hb hby at_171) (1 : Int32) rfl (pc' := 172) rfl ?_
      refine o_lload X21 hx (hb hby at_172) rfl (pc' := 174) rfl ?_
      refine o_iload X21 hx (hb hby at_174) rfl (pc' := 176) rfl ?_
      refine o_iload X21 hx (hb hby at_176) rfl (pc' := 178) rfl ?_
      refine o_iload X21 hx (hb hby at_178) rfl (pc' := 180) rfl ?_
      rcases hq23 : f3_0 v18.2 16 (1 : Int32) x5 x7 (f2_0 x5) x8 with _ | v23
      · rw [hq23] at hr; cases hr
      rw [hq23] at hr
      dsimp only [Option.bind] at hr
      refine o_callS X21 hx hZ (argsL := [(.ref a1), (.int (1 : Int32)), (.long x5), (.int x7), (.int (f2_0 x5)), (.int x8)]) (rest := []) 0 hown e21 (hw _ (List.mem_of_getElem? (i := 13) rfl)) (hw _ (List.mem_of_getElem? (i := 14) rfl)) (hw _ (List.mem_of_getElem? (i := 10) rfl)) (hw _ (List.mem_of_getElem? (i := 15) rfl)) (by decide) (rm3 l Z a0 hw [] a1 (1 : Int32) x5 x7 (f2_0 x5) x8 v18.2 16 T18.heap n0 z18 C18_o2 v23 hq23) (by decide) (by decide) (by rw [hml]; rfl) (lenOf pd_2 rfl) rfl (Nat.le_refl _) (hb hby at_180) (pc' := 183) rfl (by decide) (by decide) ?_
      rintro _ T23 L23 X23 ⟨rfl, N23, e23⟩
      replace X23 : Stand p l e room_1 s m args below meth c T23 ((((((((((((((((((((locs ++ [⟨a1, Int32.toNatClampNeg (0 : Int32)⟩]) ++ [⟨a1, Int32.toNatClampNeg (1 : Int32)⟩]) ++ [⟨a1, Int32.toNatClampNeg (2 : Int32)⟩]) ++ [⟨a1, Int32.toNatClampNeg (3 : Int32)⟩]) ++ [⟨a1, Int32.toNatClampNeg (4 : Int32)⟩]) ++ [⟨a1, Int32.toNatClampNeg (5 : Int32)⟩]) ++ [⟨a1, Int32.toNatClampNeg (6 : Int32)⟩]) ++ [⟨a1, Int32.toNatClampNeg (7 : Int32)⟩]) ++ [⟨a1, Int32.toNatClampNeg (8 : Int32)⟩]) ++ [⟨a1, Int32.toNatClampNeg (9 : Int32)⟩]) ++ [⟨a1, Int32.toNatClampNeg (10 : Int32)⟩]) ++ [⟨a1, Int32.toNatClampNeg (11 : Int32)⟩]) ++ [⟨a1, Int32.toNatClampNeg (12 : Int32)⟩]) ++ [⟨a1, Int32.toNatClampNeg (13 : Int32)⟩]) ++ [⟨a1, Int32.toNatClampNeg (14 : Int32)⟩]) ++ [⟨a1, Int32.toNatClampNeg (15 : Int32)⟩]) ++ L18) ++ L19) ++ L21) ++ L23) 1 16 := X23
      have M23 := Fr.app M21 N23
      dsimp only [Option.toList, List.cons_append, List.nil_append]
      by_cases hc24 : v23 = (0 : Int32)
      · rw [if_pos hc24] at hr
        refine o_ifYes X23 hx (hb hby at_183) (z_teq hc24).1 (pc' := 438) (by decide) (by decide) ?_
        refine o_iconst X23 hx (hb hby at_438) (0 : Int32) rfl (pc' := 439) rfl ?_
        obtain rfl : (0 : Int32) = r := Option.some.inj hr
        exact o_retN X23 hx hlk (t := .boolean) (by simp) hret (hb hby at_439) rfl ⟨rfl, M23⟩ (by decide) (by decide)
      · rw [if_neg hc24] at hr
        refine o_ifNo X23 hx (hb hby at_183) (z_feq hc24).1 (pc' := 186) rfl ?_
        refine o_aload X23 hx (hb hby at_186) rfl rfl (pc' := 188) rfl ?_
        refine o_iconst X23 hx (hb hby at_188) (2 : Int32) rfl (pc' := 189) rfl ?_
        refine o_lload X23 hx (hb hby at_189) rfl (pc' := 191) rfl ?_
        refine o_iload X23 hx (hb hby at_191) rfl (pc' := 193) rfl ?_
        refine o_iload X23 hx (hb hby at_193) rfl (pc' := 195) rfl ?_
        refine o_iload X23 hx (hb hby at_195) rfl (pc' := 197) rfl ?_
        rcases hq25 : f3_0 v18.2 16 (2 : Int32) x5 x7 (f2_0 x5) x8 with _ | v25
        · rw [hq25] at hr; cases hr
        rw [hq25] at hr
        dsimp only [Option.bind] at hr
        refine o_callS X23 hx hZ (argsL := [(.ref a1), (.int (2 : Int32)), (.long x5), (.int x7), (.int (f2_0 x5)), (.int x8)]) (rest := []) 0 hown e23 (hw _ (List.mem_of_getElem? (i := 13) rfl)) (hw _ (List.mem_of_getElem? (i := 14) rfl)) (hw _ (List.mem_of_getElem? (i := 10) rfl)) (hw _ (List.mem_of_getElem? (i := 15) rfl)) (by decide) (rm3 l Z a0 hw [] a1 (2 : Int32) x5 x7 (f2_0 x5) x8 v18.2 16 T18.heap n0 z18 C18_o2 v25 hq25) (by decide) (by decide) (by rw [hml]; rfl) (lenOf pd_2 rfl) rfl (Nat.le_refl _) (hb hby at_197) (pc' := 200) rfl (by decide) (by decide) ?_
        rintro _ T25 L25 X25 ⟨rfl, N25, e25⟩
        replace X25 : Stand p l e room_1 s m args below meth c T25 (((((((((((((((((((((locs ++ [⟨a1, Int32.toNatClampNeg (0 : Int32)⟩]) ++ [⟨a1, Int32.toNatClampNeg (1 : Int32)⟩]) ++ [⟨a1, Int32.toNatClampNeg (2 : Int32)⟩]) ++ [⟨a1, Int32.toNatClampNeg (3 : Int32)⟩]) ++ [⟨a1, Int32.toNatClampNeg (4 : Int32)⟩]) ++ [⟨a1, Int32.toNatClampNeg (5 : Int32)⟩]) ++ [⟨a1, Int32.toNatClampNeg (6 : Int32)⟩]) ++ [⟨a1, Int32.toNatClampNeg (7 : Int32)⟩]) ++ [⟨a1, Int32.toNatClampNeg (8 : Int32)⟩]) ++ [⟨a1, Int32.toNatClampNeg (9 : Int32)⟩]) ++ [⟨a1, Int32.toNatClampNeg (10 : Int32)⟩]) ++ [⟨a1, Int32.toNatClampNeg (11 : Int32)⟩]) ++ [⟨a1, Int32.toNatClampNeg (12 : Int32)⟩]) ++ [⟨a1, Int32.toNatClampNeg (13 : Int32)⟩]) ++ [⟨a1, Int32.toNatClampNeg (14 : Int32)⟩]) ++ [⟨a1, Int32.toNatClampNeg (15 : Int32)⟩]) ++ L18) ++ L19) ++ L21) ++ L23) ++ L25) 1 16 := X25
        have M25 := Fr.app M23 N25
        dsimp only [Option.toList, List.cons_append, List.nil_append]
        by_cases hc26 : v25 = (0 : Int32)
        · rw [if_pos hc26] at hr
          refine o_ifYes X25 hx (hb hby at_200) (z_teq hc26).1 (pc' := 438) (by decide) (by decide) ?_
          refine o_iconst X25 hx (hb hby at_438) (0 : Int32) rfl (pc' := 439) rfl ?_
          obtain rfl : (0 : Int32) = r := Option.some.inj hr
          exact o_retN X25 hx hlk (t := .boolean) (by simp) hret (hb hby at_439) rfl ⟨rfl, M25⟩ (by decide) (by decide)
        · rw [if_neg hc26] at hr
          refine o_ifNo X25 hx (hb hby at_200) (z_feq hc26).1 (pc' := 203) rfl ?_
          refine o_aload X25 hx (hb hby at_203) rfl rfl (pc' := 205) rfl ?_
          refine o_iconst X25 hx (hb hby at_205) (3 : Int32) rfl (pc' := 206) rfl ?_
          refine o_lload X25 hx (hb hby at_206) rfl (pc' := 208) rfl ?_
          refine o_iload X25 hx (hb hby at_208) rfl (pc' := 210) rfl ?_
          refine o_iload X25 hx (hb hby at_210) rfl (pc' := 212) rfl ?_
          refine o_iload X25 hx (hb hby at_212) rfl (pc' := 214) rfl ?_
          rcases hq27 : f3_0 v18.2 16 (3 : Int32) x5 x7 (f2_0 x5) x8 with _ | v27
          · rw [hq27] at hr; cases hr
          rw [hq27] at hr
          dsimp only [Option.bind] at hr
          refine o_callS X25 hx hZ (argsL := [(.ref a1), (.int (3 : Int32)), (.long x5), (.int x7), (.int (f2_0 x5)), (.int x8)]) (rest := []) 0 hown e25 (hw _ (List.mem_of_getElem? (i := 13) rfl)) (hw _ (List.mem_of_getElem? (i := 14) rfl)) (hw _ (List.mem_of_getElem? (i := 10) rfl)) (hw _ (List.mem_of_getElem? (i := 15) rfl)) (by decide) (rm3 l Z a0 hw [] a1 (3 : Int32) x5 x7 (f2_0 x5) x8 v18.2 16 T18.heap n0 z18 C18_o2 v27 hq27) (by decide) (by decide) (by rw [hml]; rfl) (lenOf pd_2 rfl) rfl (Nat.le_refl _) (hb hby at_214) (pc' := 217) rfl (by decide) (by decide) ?_
          rintro _ T27 L27 X27 ⟨rfl, N27, e27⟩
          replace X27 : Stand p l e room_1 s m args below meth c T27 ((((((((((((((((((((((locs ++ [⟨a1, Int32.toNatClampNeg (0 : Int32)⟩]) ++ [⟨a1, Int32.toNatClampNeg (1 : Int32)⟩]) ++ [⟨a1, Int32.toNatClampNeg (2 : Int32)⟩]) ++ [⟨a1, Int32.toNatClampNeg (3 : Int32)⟩]) ++ [⟨a1, Int32.toNatClampNeg (4 : Int32)⟩]) ++ [⟨a1, Int32.toNatClampNeg (5 : Int32)⟩]) ++ [⟨a1, Int32.toNatClampNeg (6 : Int32)⟩]) ++ [⟨a1, Int32.toNatClampNeg (7 : Int32)⟩]) ++ [⟨a1, Int32.toNatClampNeg (8 : Int32)⟩]) ++ [⟨a1, Int32.toNatClampNeg (9 : Int32)⟩]) ++ [⟨a1, Int32.toNatClampNeg (10 : Int32)⟩]) ++ [⟨a1, Int32.toNatClampNeg (11 : Int32)⟩]) ++ [⟨a1, Int32.toNatClampNeg (12 : Int32)⟩]) ++ [⟨a1, Int32.toNatClampNeg (13 : Int32)⟩]) ++ [⟨a1, Int32.toNatClampNeg (14 : Int32)⟩]) ++ [⟨a1, Int32.toNatClampNeg (15 : Int32)⟩]) ++ L18) ++ L19) ++ L21) ++ L23) ++ L25) ++ L27) 1 16 := X27
          have M27 := Fr.app M25 N27
          dsimp only [Option.toList, List.cons_append, List.nil_append]
          by_cases hc28 : v27 = (0 : Int32)
          · rw [if_pos hc28] at hr
            refine o_ifYes X27 hx (hb hby at_217) (z_teq hc28).1 (pc' := 438) (by decide) (by decide) ?_
            refine o_iconst X27 hx (hb hby at_438) (0 : Int32) rfl (pc' := 439) rfl ?_
            obtain rfl : (0 : Int32) = r := Option.some.inj hr
            exact o_retN X27 hx hlk (t := .boolean) (by simp) hret (hb hby at_439) rfl ⟨rfl, M27⟩ (by decide) (by decide)
          · rw [if_neg hc28] at hr
            refine o_ifNo X27 hx (hb hby at_217) (z_feq hc28).1 (pc' := 220) rfl ?_
            refine o_aload X27 hx (hb hby at_220) rfl rfl (pc' := 222) rfl ?_
            refine o_iconst X27 hx (hb hby at_222) (4 : Int32) rfl (pc' := 223) rfl ?_
            refine o_lload X27 hx (hb hby at_223) rfl (pc' := 225) rfl ?_
            refine o_iload X27 hx (hb hby at_225) rfl (pc' := 227) rfl ?_
            refine o_iload X27 hx (hb hby at_227) rfl (pc' := 229) rfl ?_
            refine o_iload X27 hx (hb hby at_229) rfl (pc' := 231) rfl ?_
            rcases hq29 : f3_0 v18.2 16 (4 : Int32) x5 x7 (f2_0 x5) x8 with _ | v29
            · rw [hq29] at hr; cases hr
            rw [hq29] at hr
            dsimp only [Option.bind] at hr
            refine o_callS X27 hx hZ (argsL := [(.ref a1), (.int (4 : Int32)), (.long x5), (.int x7), (.int (f2_0 x5)), (.int x8)]) (rest := []) 0 hown e27 (hw _ (List.mem_of_getElem? (i := 13) rfl)) (hw _ (List.mem_of_getElem? (i := 14) rfl)) (hw _ (List.mem_of_getElem? (i := 10) rfl)) (hw _ (List.mem_of_getElem? (i := 15) rfl)) (by decide) (rm3 l Z a0 hw [] a1 (4 : Int32) x5 x7 (f2_0 x5) x8 v18.2 16 T18.heap n0 z18 C18_o2 v29 hq29) (by decide) (by decide) (by rw [hml]; rfl) (lenOf pd_2 rfl) rfl (Nat.le_refl _) (hb hby at_231) (pc' := 234) rfl (by decide) (by decide) ?_
            rintro _ T29 L29 X29 ⟨rfl, N29, e29⟩
            replace X29 : Stand p l e room_1 s m args below meth c T29 (((((((((((((((((((((((locs ++ [⟨a1, Int32.toNatClampNeg (0 : Int32)⟩]) ++ [⟨a1, Int32.toNatClampNeg (1 : Int32)⟩]) ++ [⟨a1, Int32.toNatClampNeg (2 : Int32)⟩]) ++ [⟨a1, Int32.toNatClampNeg (3 : Int32)⟩]) ++ [⟨a1, Int32.toNatClampNeg (4 : Int32)⟩]) ++ [⟨a1, Int32.toNatClampNeg (5 : Int32)⟩]) ++ [⟨a1, Int32.toNatClampNeg (6 : Int32)⟩]) ++ [⟨a1, Int32.toNatClampNeg (7 : Int32)⟩]) ++ [⟨a1, Int32.toNatClampNeg (8 : Int32)⟩]) ++ [⟨a1, Int32.toNatClampNeg (9 : Int32)⟩]) ++ [⟨a1, Int32.toNatClampNeg (10 : Int32)⟩]) ++ [⟨a1, Int32.toNatClampNeg (11 : Int32)⟩]) ++ [⟨a1, Int32.toNatClampNeg (12 : Int32)⟩]) ++ [⟨a1, Int32.toNatClampNeg (13 : Int32)⟩]) ++ [⟨a1, Int32.toNatClampNeg (14 : Int32)⟩]) ++ [⟨a1, Int32.toNatClampNeg (15 : Int32)⟩]) ++ L18) ++ L19) ++ L21) ++ L23) ++ L25) ++ L27) ++ L29) 1 16 := X29
            have M29 := Fr.app M27 N29
            dsimp only [Option.toList, List.cons_append, List.nil_append]
            by_cases hc30 : v29 = (0 : Int32)
            · rw [if_pos hc30] at hr
              refine o_ifYes X29 hx (hb hby at_234) (z_teq hc30).1 (pc' := 438) (by decide) (by decide) ?_
              refine o_iconst X29 hx (hb hby at_438) (0 : Int32) rfl (pc' := 439) rfl ?_
              obtain rfl : (0 : Int32) = r := Option.some.inj hr
              exact o_retN X29 hx hlk (t := .boolean) (by simp) hret (hb hby at_439) rfl ⟨rfl, M29⟩ (by decide) (by decide)
            · rw [if_neg hc30] at hr
              refine o_ifNo X29 hx (hb hby at_234) (z_feq hc30).1 (pc' := 237) rfl ?_
              refine o_aload X29 hx (hb hby at_237) rfl rfl (pc' := 239) rfl ?_
              refine o_iconst X29 hx (hb hby at_239) (5 : Int32) rfl (pc' := 240) rfl ?_
              refine o_lload X29 hx (hb hby at_240) rfl (pc' := 242) rfl ?_
              refine o_iload X29 hx (hb hby at_242) rfl (pc' := 244) rfl ?_
              refine o_iload X29 hx (hb hby at_244) rfl (pc' := 246) rfl ?_
              refine o_iload X29 hx (hb hby at_246) rfl (pc' := 248) rfl ?_
              rcases hq31 : f3_0 v18.2 16 (5 : Int32) x5 x7 (f2_0 x5) x8 with _ | v31
              · rw [hq31] at hr; cases hr
              rw [hq31] at hr
              dsimp only [Option.bind] at hr
              refine o_callS X29 hx hZ (argsL := [(.ref a1), (.int (5 : Int32)), (.long x5), (.int x7), (.int (f2_0 x5)), (.int x8)]) (rest := []) 0 hown e29 (hw _ (List.mem_of_getElem? (i := 13) rfl)) (hw _ (List.mem_of_getElem? (i := 14) rfl)) (hw _ (List.mem_of_getElem? (i := 10) rfl)) (hw _ (List.mem_of_getElem? (i := 15) rfl)) (by decide) (rm3 l Z a0 hw [] a1 (5 : Int32) x5 x7 (f2_0 x5) x8 v18.2 16 T18.heap n0 z18 C18_o2 v31 hq31) (by decide) (by decide) (by rw [hml]; rfl) (lenOf pd_2 rfl) rfl (Nat.le_refl _) (hb hby at_248) (pc' := 251) rfl (by decide) (by decide) ?_
              rintro _ T31 L31 X31 ⟨rfl, N31, e31⟩
              replace X31 : Stand p l e room_1 s m args below meth c T31 ((((((((((((((((((((((((locs ++ [⟨a1, Int32.toNatClampNeg (0 : Int32)⟩]) ++ [⟨a1, Int32.toNatClampNeg (1 : Int32)⟩]) ++ [⟨a1, Int32.toNatClampNeg (2 : Int32)⟩]) ++ [⟨a1, Int32.toNatClampNeg (3 : Int32)⟩]) ++ [⟨a1, Int32.toNatClampNeg (4 : Int32)⟩]) ++ [⟨a1, Int32.toNatClampNeg (5 : Int32)⟩]) ++ [⟨a1, Int32.toNatClampNeg (6 : Int32)⟩]) ++ [⟨a1, Int32.toNatClampNeg (7 : Int32)⟩]) ++ [⟨a1, Int32.toNatClampNeg (8 : Int32)⟩]) ++ [⟨a1, Int32.toNatClampNeg (9 : Int32)⟩]) ++ [⟨a1, Int32.toNatClampNeg (10 : Int32)⟩]) ++ [⟨a1, Int32.toNatClampNeg (11 : Int32)⟩]) ++ [⟨a1, Int32.toNatClampNeg (12 : Int32)⟩]) ++ [⟨a1, Int32.toNatClampNeg (13 : Int32)⟩]) ++ [⟨a1, Int32.toNatClampNeg (14 : Int32)⟩]) ++ [⟨a1, Int32.toNatClampNeg (15 : Int32)⟩]) ++ L18) ++ L19) ++ L21) ++ L23) ++ L25) ++ L27) ++ L29) ++ L31) 1 16 := X31
              have M31 := Fr.app M29 N31
              dsimp only [Option.toList, List.cons_append, List.nil_append]
              by_cases hc32 : v31 = (0 : Int32)
              · rw [if_pos hc32] at hr
                refine o_ifYes X31 hx (hb hby at_251) (z_teq hc32).1 (pc' := 438) (by decide) (by decide) ?_
                refine o_iconst X31 hx (hb hby at_438) (0 : Int32) rfl (pc' := 439) rfl ?_
                obtain rfl : (0 : Int32) = r := Option.some.inj hr
                exact o_retN X31 hx hlk (t := .boolean) (by simp) hret (hb hby at_439) rfl ⟨rfl, M31⟩ (by decide) (by decide)
              · rw [if_neg hc32] at hr
                refine o_ifNo X31 hx (hb hby at_251) (z_feq hc32).1 (pc' := 254) rfl ?_
                refine o_aload X31 hx (hb hby at_254) rfl rfl (pc' := 256) rfl ?_
                refine o_bipush X31 hx (hb hby at_256) (6 : Int32) rfl (pc' := 258) rfl ?_
                refine o_lload X31 hx (hb hby at_258) rfl (pc' := 260) rfl ?_
                refine o_iload X31 hx (hb hby at_260) rfl (pc' := 262) rfl ?_
                refine o_iload X31 hx (hb hby at_262) rfl (pc' := 264) rfl ?_
                refine o_iload X31 hx (hb hby at_264) rfl (pc' := 266) rfl ?_
                rcases hq33 : f3_0 v18.2 16 (6 : Int32) x5 x7 (f2_0 x5) x8 with _ | v33
                · rw [hq33] at hr; cases hr
                rw [hq33] at hr
                dsimp only [Option.bind] at hr
                refine o_callS X31 hx hZ (argsL := [(.ref a1), (.int (6 : Int32)), (.long x5), (.int x7), (.int (f2_0 x5)), (.int x8)]) (rest := []) 0 hown e31 (hw _ (List.mem_of_getElem? (i := 13) rfl)) (hw _ (List.mem_of_getElem? (i := 14) rfl)) (hw _ (List.mem_of_getElem? (i := 10) rfl)) (hw _ (List.mem_of_getElem? (i := 15) rfl)) (by decide) (rm3 l Z a0 hw [] a1 (6 : Int32) x5 x7 (f2_0 x5) x8 v18.2 16 T18.heap n0 z18 C18_o2 v33 hq33) (by decide) (by decide) (by rw [hml]; rfl) (lenOf pd_2 rfl) rfl (Nat.le_refl _) (hb hby at_266) (pc' := 269) rfl (by decide) (by decide) ?_
                rintro _ T33 L33 X33 ⟨rfl, N33, e33⟩
                replace X33 : Stand p l e room_1 s m args below meth c T33 (((((((((((((((((((((((((locs ++ [⟨a1, Int32.toNatClampNeg (0 : Int32)⟩]) ++ [⟨a1, Int32.toNatClampNeg (1 : Int32)⟩]) ++ [⟨a1, Int32.toNatClampNeg (2 : Int32)⟩]) ++ [⟨a1, Int32.toNatClampNeg (3 : Int32)⟩]) ++ [⟨a1, Int32.toNatClampNeg (4 : Int32)⟩]) ++ [⟨a1, Int32.toNatClampNeg (5 : Int32)⟩]) ++ [⟨a1, Int32.toNatClampNeg (6 : Int32)⟩]) ++ [⟨a1, Int32.toNatClampNeg (7 : Int32)⟩]) ++ [⟨a1, Int32.toNatClampNeg (8 : Int32)⟩]) ++ [⟨a1, Int32.toNatClampNeg (9 : Int32)⟩]) ++ [⟨a1, Int32.toNatClampNeg (10 : Int32)⟩]) ++ [⟨a1, Int32.toNatClampNeg (11 : Int32)⟩]) ++ [⟨a1, Int32.toNatClampNeg (12 : Int32)⟩]) ++ [⟨a1, Int32.toNatClampNeg (13 : Int32)⟩]) ++ [⟨a1, Int32.toNatClampNeg (14 : Int32)⟩]) ++ [⟨a1, Int32.toNatClampNeg (15 : Int32)⟩]) ++ L18) ++ L19) ++ L21) ++ L23) ++ L25) ++ L27) ++ L29) ++ L31) ++ L33) 1 16 := X33
                have M33 := Fr.app M31 N33
                dsimp only [Option.toList, List.cons_append, List.nil_append]
                by_cases hc34 : v33 = (0 : Int32)
                · rw [if_pos hc34] at hr
                  refine o_ifYes X33 hx (hb hby at_269) (z_teq hc34).1 (pc' := 438) (by decide) (by decide) ?_
                  refine o_iconst X33 hx (hb hby at_438) (0 : Int32) rfl (pc' := 439) rfl ?_
                  obtain rfl : (0 : Int32) = r := Option.some.inj hr
                  exact o_retN X33 hx hlk (t := .boolean) (by simp) hret (hb hby at_439) rfl ⟨rfl, M33⟩ (by decide) (by decide)
                · rw [if_neg hc34] at hr
                  refine o_ifNo X33 hx (hb hby at_269) (z_feq hc34).1 (pc' := 272) rfl ?_
                  refine o_aload X33 hx (hb hby at_272) rfl rfl (pc' := 274) rfl ?_
                  refine o_bipush X33 hx (hb hby at_274) (7 : Int32) rfl (pc' := 276) rfl ?_
                  refine o_lload X33 hx (hb hby at_276) rfl (pc' := 278) rfl ?_
                  refine o_iload X33 hx (hb hby at_278) rfl (pc' := 280) rfl ?_
                  refine o_iload X33 hx (hb hby at_280) rfl (pc' := 282) rfl ?_
                  refine o_iload X33 hx (hb hby at_282) rfl (pc' := 284) rfl ?_
                  rcases hq35 : f3_0 v18.2 16 (7 : Int32) x5 x7 (f2_0 x5) x8 with _ | v35
                  · rw [hq35] at hr; cases hr
                  rw [hq35] at hr
                  dsimp only [Option.bind] at hr
                  refine o_callS X33 hx hZ (argsL := [(.ref a1), (.int (7 : Int32)), (.long x5), (.int x7), (.int (f2_0 x5)), (.int x8)]) (rest := []) 0 hown e33 (hw _ (List.mem_of_getElem? (i := 13) rfl)) (hw _ (List.mem_of_getElem? (i := 14) rfl)) (hw _ (List.mem_of_getElem? (i := 10) rfl)) (hw _ (List.mem_of_getElem? (i := 15) rfl)) (by decide) (rm3 l Z a0 hw [] a1 (7 : Int32) x5 x7 (f2_0 x5) x8 v18.2 16 T18.heap n0 z18 C18_o2 v35 hq35) (by decide) (by decide) (by rw [hml]; rfl) (lenOf pd_2 rfl) rfl (Nat.le_refl _) (hb hby at_284) (pc' := 287) rfl (by decide) (by decide) ?_
                  rintro _ T35 L35 X35 ⟨rfl, N35, e35⟩
                  replace X35 : Stand p l e room_1 s m args below meth c T35 ((((((((((((((((((((((((((locs ++ [⟨a1, Int32.toNatClampNeg (0 : Int32)⟩]) ++ [⟨a1, Int32.toNatClampNeg (1 : Int32)⟩]) ++ [⟨a1, Int32.toNatClampNeg (2 : Int32)⟩]) ++ [⟨a1, Int32.toNatClampNeg (3 : Int32)⟩]) ++ [⟨a1, Int32.toNatClampNeg (4 : Int32)⟩]) ++ [⟨a1, Int32.toNatClampNeg (5 : Int32)⟩]) ++ [⟨a1, Int32.toNatClampNeg (6 : Int32)⟩]) ++ [⟨a1, Int32.toNatClampNeg (7 : Int32)⟩]) ++ [⟨a1, Int32.toNatClampNeg (8 : Int32)⟩]) ++ [⟨a1, Int32.toNatClampNeg (9 : Int32)⟩]) ++ [⟨a1, Int32.toNatClampNeg (10 : Int32)⟩]) ++ [⟨a1, Int32.toNatClampNeg (11 : Int32)⟩]) ++ [⟨a1, Int32.toNatClampNeg (12 : Int32)⟩]) ++ [⟨a1, Int32.toNatClampNeg (13 : Int32)⟩]) ++ [⟨a1, Int32.toNatClampNeg (14 : Int32)⟩]) ++ [⟨a1, Int32.toNatClampNeg (15 : Int32)⟩]) ++ L18) ++ L19) ++ L21) ++ L23) ++ L25) ++ L27) ++ L29) ++ L31) ++ L33) ++ L35) 1 16 := X35
                  have M35 := Fr.app M33 N35
                  dsimp only [Option.toList, List.cons_append, List.nil_append]
                  by_cases hc36 : v35 = (0 : Int32)
                  · rw [if_pos hc36] at hr
                    refine o_ifYes X35 hx (hb hby at_287) (z_teq hc36).1 (pc' := 438) (by decide) (by decide) ?_
                    refine o_iconst X35 hx (hb hby at_438) (0 : Int32) rfl (pc' := 439) rfl ?_
                    obtain rfl : (0 : Int32) = r := Option.some.inj hr
                    exact o_retN X35 hx hlk (t := .boolean) (by simp) hret (hb hby at_439) rfl ⟨rfl, M35⟩ (by decide) (by decide)
                  · rw [if_neg hc36] at hr
                    refine o_ifNo X35 hx (hb hby at_287) (z_feq hc36).1 (pc' := 290) rfl ?_
                    refine o_aload X35 hx (hb hby at_290) rfl rfl (pc' := 292) rfl ?_
                    refine o_bipush X35 hx (hb hby at_292) (8 : Int32) rfl (pc' := 294) rfl ?_
                    refine o_lload X35 hx (hb hby at_294) rfl (pc' := 296) rfl ?_
                    refine o_iload X35 hx (hb hby at_296) rfl (pc' := 298) rfl ?_
                    refine o_iload X35 hx (hb hby at_298) rfl (pc' := 300) rfl ?_
                    refine o_iload X35 hx (hb hby at_300) rfl (pc' := 302) rfl ?_
                    rcases hq37 : f3_0 v18.2 16 (8 : Int32) x5 x7 (f2_0 x5) x8 with _ | v37
                    · rw [hq37] at hr; cases hr
                    rw [hq37] at hr
                    dsimp only [Option.bind] at hr
                    refine o_callS X35 hx hZ (argsL := [(.ref a1), (.int (8 : Int32)), (.long x5), (.int x7), (.int (f2_0 x5)), (.int x8)]) (rest := []) 0 hown e35 (hw _ (List.mem_of_getElem? (i := 13) rfl)) (hw _ (List.mem_of_getElem? (i := 14) rfl)) (hw _ (List.mem_of_getElem? (i := 10) rfl)) (hw _ (List.mem_of_getElem? (i := 15) rfl)) (by decide) (rm3 l Z a0 hw [] a1 (8 : Int32) x5 x7 (f2_0 x5) x8 v18.2 16 T18.heap n0 z18 C18_o2 v37 hq37) (by decide) (by decide) (by rw [hml]; rfl) (lenOf pd_2 rfl) rfl (Nat.le_refl _) (hb hby at_302) (pc' := 305) rfl (by decide) (by decide) ?_
                    rintro _ T37 L37 X37 ⟨rfl, N37, e37⟩
                    replace X37 : Stand p l e room_1 s m args below meth c T37 (((((((((((((((((((((((((((locs ++ [⟨a1, Int32.toNatClampNeg (0 : Int32)⟩]) ++ [⟨a1, Int32.toNatClampNeg (1 : Int32)⟩]) ++ [⟨a1, Int32.toNatClampNeg (2 : Int32)⟩]) ++ [⟨a1, Int32.toNatClampNeg (3 : Int32)⟩]) ++ [⟨a1, Int32.toNatClampNeg (4 : Int32)⟩]) ++ [⟨a1, Int32.toNatClampNeg (5 : Int32)⟩]) ++ [⟨a1, Int32.toNatClampNeg (6 : Int32)⟩]) ++ [⟨a1, Int32.toNatClampNeg (7 : Int32)⟩]) ++ [⟨a1, Int32.toNatClampNeg (8 : Int32)⟩]) ++ [⟨a1, Int32.toNatClampNeg (9 : Int32)⟩]) ++ [⟨a1, Int32.toNatClampNeg (10 : Int32)⟩]) ++ [⟨a1, Int32.toNatClampNeg (11 : Int32)⟩]) ++ [⟨a1, Int32.toNatClampNeg (12 : Int32)⟩]) ++ [⟨a1, Int32.toNatClampNeg (13 : Int32)⟩]) ++ [⟨a1, Int32.toNatClampNeg (14 : Int32)⟩]) ++ [⟨a1, Int32.toNatClampNeg (15 : Int32)⟩]) ++ L18) ++ L19) ++ L21) ++ L23) ++ L25) ++ L27) ++ L29) ++ L31) ++ L33) ++ L35) ++ L37) 1 16 := X37
                    have M37 := Fr.app M35 N37
                    dsimp only [Option.toList, List.cons_append, List.nil_append]
                    by_cases hc38 : v37 = (0 : Int32)
                    · rw [if_pos hc38] at hr
                      refine o_ifYes X37 hx (hb hby at_305) (z_teq hc38).1 (pc' := 438) (by decide) (by decide) ?_
                      refine o_iconst X37 hx (hb hby at_438) (0 : Int32) rfl (pc' := 439) rfl ?_
                      obtain rfl : (0 : Int32) = r := Option.some.inj hr
                      exact o_retN X37 hx hlk (t := .boolean) (by simp) hret (hb hby at_439) rfl ⟨rfl, M37⟩ (by decide) (by decide)
                    · rw [if_neg hc38] at hr
                      refine o_ifNo X37 hx (hb hby at_305) (z_feq hc38).1 (pc' := 308) rfl ?_
                      refine o_aload X37 hx (hb hby at_308) rfl rfl (pc' := 310) rfl ?_
                      refine o_bipush X37 hx (hb hby at_310) (9 : Int32) rfl (pc' := 312) rfl ?_
                      refine o_lload X37 hx (hb hby at_312) rfl (pc' := 314) rfl ?_
                      refine o_iload X37 hx (hb hby at_314) rfl (pc' := 316) rfl ?_
                      refine o_iload X37 hx (hb hby at_316) rfl (pc' := 318) rfl ?_
                      refine o_iload X37 hx (hb hby at_318) rfl (pc' := 320) rfl ?_
                      rcases hq39 : f3_0 v18.2 16 (9 : Int32) x5 x7 (f2_0 x5) x8 with _ | v39
                      · rw [hq39] at hr; cases hr
                      rw [hq39] at hr
                      dsimp only [Option.bind] at hr
                      refine o_callS X37 hx hZ (argsL := [(.ref a1), (.int (9 : Int32)), (.long x5), (.int x7), (.int (f2_0 x5)), (.int x8)]) (rest := []) 0 hown e37 (hw _ (List.mem_of_getElem? (i := 13) rfl)) (hw _ (List.mem_of_getElem? (i := 14) rfl)) (hw _ (List.mem_of_getElem? (i := 10) rfl)) (hw _ (List.mem_of_getElem? (i := 15) rfl)) (by decide) (rm3 l Z a0 hw [] a1 (9 : Int32) x5 x7 (f2_0 x5) x8 v18.2 16 T18.heap n0 z18 C18_o2 v39 hq39) (by decide) (by decide) (by rw [hml]; rfl) (lenOf pd_2 rfl) rfl (Nat.le_refl _) (hb hby at_320) (pc' := 323) rfl (by decide) (by decide) ?_
                      rintro _ T39 L39 X39 ⟨rfl, N39, e39⟩
                      replace X39 : Stand p l e room_1 s m args below meth c T39 ((((((((((((((((((((((((((((locs ++ [⟨a1, Int32.toNatClampNeg (0 : Int32)⟩]) ++ [⟨a1, Int32.toNatClampNeg (1 : Int32)⟩]) ++ [⟨a1, Int32.toNatClampNeg (2 : Int32)⟩]) ++ [⟨a1, Int32.toNatClampNeg (3 : Int32)⟩]) ++ [⟨a1, Int32.toNatClampNeg (4 : Int32)⟩]) ++ [⟨a1, Int32.toNatClampNeg (5 : Int32)⟩]) ++ [⟨a1, Int32.toNatClampNeg (6 : Int32)⟩]) ++ [⟨a1, Int32.toNatClampNeg (7 : Int32)⟩]) ++ [⟨a1, Int32.toNatClampNeg (8 : Int32)⟩]) ++ [⟨a1, Int32.toNatClampNeg (9 : Int32)⟩]) ++ [⟨a1, Int32.toNatClampNeg (10 : Int32)⟩]) ++ [⟨a1, Int32.toNatClampNeg (11 : Int32)⟩]) ++ [⟨a1, Int32.toNatClampNeg (12 : Int32)⟩]) ++ [⟨a1, Int32.toNatClampNeg (13 : Int32)⟩]) ++ [⟨a1, Int32.toNatClampNeg (14 : Int32)⟩]) ++ [⟨a1, Int32.toNatClampNeg (15 : Int32)⟩]) ++ L18) ++ L19) ++ L21) ++ L23) ++ L25) ++ L27) ++ L29) ++ L31) ++ L33) ++ L35) ++ L37) ++ L39) 1 16 := X39
                      have M39 := Fr.app M37 N39
                      dsimp only [Option.toList, List.cons_append, List.nil_append]
                      by_cases hc40 : v39 = (0 : Int32)
                      · rw [if_pos hc40] at hr
                        refine o_ifYes X39 hx (hb hby at_323) (z_teq hc40).1 (pc' := 438) (by decide) (by decide) ?_
                        refine o_iconst X39 hx (hb hby at_438) (0 : Int32) rfl (pc' := 439) rfl ?_
                        obtain rfl : (0 : Int32) = r := Option.some.inj hr
                        exact o_retN X39 hx hlk (t := .boolean) (by simp) hret (hb hby at_439) rfl ⟨rfl, M39⟩ (by decide) (by decide)
                      · rw [if_neg hc40] at hr
                        refine o_ifNo X39 hx (hb hby at_323) (z_feq hc40).1 (pc' := 326) rfl ?_
                        refine o_aload X39 hx (hb hby at_326) rfl rfl (pc' := 328) rfl ?_
                        refine o_bipush X39 hx (hb hby at_328) (10 : Int32) rfl (pc' := 330) rfl ?_
                        refine o_lload X39 hx (hb hby at_330) rfl (pc' := 332) rfl ?_
                        refine o_iload X39 hx (hb hby at_332) rfl (pc' := 334) rfl ?_
                        refine o_iload X39 hx (hb hby at_334) rfl (pc' := 336) rfl ?_
                        refine o_iload X39 hx (hb hby at_336) rfl (pc' := 338) rfl ?_
                        rcases hq41 : f3_0 v18.2 16 (10 : Int32) x5 x7 (f2_0 x5) x8 with _ | v41
                        · rw [hq41] at hr; cases hr
                        rw [hq41] at hr
                        dsimp only [Option.bind] at hr
                        refine o_callS X39 hx hZ (argsL := [(.ref a1), (.int (10 : Int32)), (.long x5), (.int x7), (.int (f2_0 x5)), (.int x8)]) (rest := []) 0 hown e39 (hw _ (List.mem_of_getElem? (i := 13) rfl)) (hw _ (List.mem_of_getElem? (i := 14) rfl)) (hw _ (List.mem_of_getElem? (i := 10) rfl)) (hw _ (List.mem_of_getElem? (i := 15) rfl)) (by decide) (rm3 l Z a0 hw [] a1 (10 : Int32) x5 x7 (f2_0 x5) x8 v18.2 16 T18.heap n0 z18 C18_o2 v41 hq41) (by decide) (by decide) (by rw [hml]; rfl) (lenOf pd_2 rfl) rfl (Nat.le_refl _) (hb hby at_338) (pc' := 341) rfl (by decide) (by decide) ?_
                        rintro _ T41 L41 X41 ⟨rfl, N41, e41⟩
                        replace X41 : Stand p l e room_1 s m args below meth c T41 (((((((((((((((((((((((((((((locs ++ [⟨a1, Int32.toNatClampNeg (0 : Int32)⟩]) ++ [⟨a1, Int32.toNatClampNeg (1 : Int32)⟩]) ++ [⟨a1, Int32.toNatClampNeg (2 : Int32)⟩]) ++ [⟨a1, Int32.toNatClampNeg (3 : Int32)⟩]) ++ [⟨a1, Int32.toNatClampNeg (4 : Int32)⟩]) ++ [⟨a1, Int32.toNatClampNeg (5 : Int32)⟩]) ++ [⟨a1, Int32.toNatClampNeg (6 : Int32)⟩]) ++ [⟨a1, Int32.toNatClampNeg (7 : Int32)⟩]) ++ [⟨a1, Int32.toNatClampNeg (8 : Int32)⟩]) ++ [⟨a1, Int32.toNatClampNeg (9 : Int32)⟩]) ++ [⟨a1, Int32.toNatClampNeg (10 : Int32)⟩]) ++ [⟨a1, Int32.toNatClampNeg (11 : Int32)⟩]) ++ [⟨a1, Int32.toNatClampNeg (12 : Int32)⟩]) ++ [⟨a1, Int32.toNatClampNeg (13 : Int32)⟩]) ++ [⟨a1, Int32.toNatClampNeg (14 : Int32)⟩]) ++ [⟨a1, Int32.toNatClampNeg (15 : Int32)⟩]) ++ L18) ++ L19) ++ L21) ++ L23) ++ L25) ++ L27) ++ L29) ++ L31) ++ L33) ++ L35) ++ L37) ++ L39) ++ L41) 1 16 := X41
                        have M41 := Fr.app M39 N41
                        dsimp only [Option.toList, List.cons_append, List.nil_append]
                        by_cases hc42 : v41 = (0 : Int32)
                        · rw [if_pos hc42] at hr
                          refine o_ifYes X41 hx (hb hby at_341) (z_teq hc42).1 (pc' := 438) (by decide) (by decide) ?_
                          refine o_iconst X41 hx (hb hby at_438) (0 : Int32) rfl (pc' := 439) rfl ?_
                          obtain rfl : (0 : Int32) = r := Option.some.inj hr
                          exact o_retN X41 hx hlk (t := .boolean) (by simp) hret (hb hby at_439) rfl ⟨rfl, M41⟩ (by decide) (by decide)
                        · rw [if_neg hc42] at hr
                          refine o_ifNo X41 hx (hb hby at_341) (z_feq hc42).1 (pc' := 344) rfl ?_
                          refine o_aload X41 hx (hb hby at_344) rfl rfl (pc' := 346) rfl ?_
                          refine o_bipush X41 hx (hb hby at_346) (11 : Int32) rfl (pc' := 348) rfl ?_
                          refine o_lload X41 hx (hb hby at_348) rfl (pc' := 350) rfl ?_
                          refine o_iload X41 hx (hb hby at_350) rfl (pc' := 352) rfl ?_
                          refine o_iload X41 hx (hb hby at_352) rfl (pc' := 354) rfl ?_
                          refine o_iload X41 hx (hb hby at_354) rfl (pc' := 356) rfl ?_
                          rcases hq43 : f3_0 v18.2 16 (11 : Int32) x5 x7 (f2_0 x5) x8 with _ | v43
                          · rw [hq43] at hr; cases hr
                          rw [hq43] at hr
                          dsimp only [Option.bind] at hr
                          refine o_callS X41 hx hZ (argsL := [(.ref a1), (.int (11 : Int32)), (.long x5), (.int x7), (.int (f2_0 x5)), (.int x8)]) (rest := []) 0 hown e41 (hw _ (List.mem_of_getElem? (i := 13) rfl)) (hw _ (List.mem_of_getElem? (i := 14) rfl)) (hw _ (List.mem_of_getElem? (i := 10) rfl)) (hw _ (List.mem_of_getElem? (i := 15) rfl)) (by decide) (rm3 l Z a0 hw [] a1 (11 : Int32) x5 x7 (f2_0 x5) x8 v18.2 16 T18.heap n0 z18 C18_o2 v43 hq43) (by decide) (by decide) (by rw [hml]; rfl) (lenOf pd_2 rfl) rfl (Nat.le_refl _) (hb hby at_356) (pc' := 359) rfl (by decide) (by decide) ?_
                          rintro _ T43 L43 X43 ⟨rfl, N43, e43⟩
                          replace X43 : Stand p l e room_1 s m args below meth c T43 ((((((((((((((((((((((((((((((locs ++ [⟨a1, Int32.toNatClampNeg (0 : Int32)⟩]) ++ [⟨a1, Int32.toNatClampNeg (1 : Int32)⟩]) ++ [⟨a1, Int32.toNatClampNeg (2 : Int32)⟩]) ++ [⟨a1, Int32.toNatClampNeg (3 : Int32)⟩]) ++ [⟨a1, Int32.toNatClampNeg (4 : Int32)⟩]) ++ [⟨a1, Int32.toNatClampNeg (5 : Int32)⟩]) ++ [⟨a1, Int32.toNatClampNeg (6 : Int32)⟩]) ++ [⟨a1, Int32.toNatClampNeg (7 : Int32)⟩]) ++ [⟨a1, Int32.toNatClampNeg (8 : Int32)⟩]) ++ [⟨a1, Int32.toNatClampNeg (9 : Int32)⟩]) ++ [⟨a1, Int32.toNatClampNeg (10 : Int32)⟩]) ++ [⟨a1, Int32.toNatClampNeg (11 : Int32)⟩]) ++ [⟨a1, Int32.toNatClampNeg (12 : Int32)⟩]) ++ [⟨a1, Int32.toNatClampNeg (13 : Int32)⟩]) ++ [⟨a1, Int32.toNatClampNeg (14 : Int32)⟩]) ++ [⟨a1, Int32.toNatClampNeg (15 : Int32)⟩]) ++ L18) ++ L19) ++ L21) ++ L23) ++ L25) ++ L27) ++ L29) ++ L31) ++ L33) ++ L35) ++ L37) ++ L39) ++ L41) ++ L43) 1 16 := X43
                          have M43 := Fr.app M41 N43
                          dsimp only [Option.toList, List.cons_append, List.nil_append]
                          by_cases hc44 : v43 = (0 : Int32)
                          · rw [if_pos hc44] at hr
                            refine o_ifYes X43 hx (hb hby at_359) (z_teq hc44).1 (pc' := 438) (by decide) (by decide) ?_
                            refine o_iconst X43 hx (hb hby at_438) (0 : Int32) rfl (pc' := 439) rfl ?_
                            obtain rfl : (0 : Int32) = r := Option.some.inj hr
                            exact o_retN X43 hx hlk (t := .boolean) (by simp) hret (hb hby at_439) rfl ⟨rfl, M43⟩ (by decide) (by decide)
                          · rw [if_neg hc44] at hr
                            refine o_ifNo X43 hx (hb hby at_359) (z_feq hc44).1 (pc' := 362) rfl ?_
                            refine o_aload X43 hx (hb hby at_362) rfl rfl (pc' := 364) rfl ?_
                            refine o_bipush X43 hx (hb hby at_364) (12 : Int32) rfl (pc' := 366) rfl ?_
                            refine o_lload X43 hx (hb hby at_366) rfl (pc' := 368) rfl ?_
                            refine o_iload X43 hx (hb hby at_368) rfl (pc' := 370) rfl ?_
                            refine o_iload X43 hx (hb hby at_370) rfl (pc' := 372) rfl ?_
                            refine o_iload X43 hx (hb hby at_372) rfl (pc' := 374) rfl ?_
                            rcases hq45 : f3_0 v18.2 16 (12 : Int32) x5 x7 (f2_0 x5) x8 with _ | v45
                            · rw [hq45] at hr; cases hr
                            rw [hq45] at hr
                            dsimp only [Option.bind] at hr
                            refine o_callS X43 hx hZ (argsL := [(.ref a1), (.int (12 : Int32)), (.long x5), (.int x7), (.int (f2_0 x5)), (.int x8)]) (rest := []) 0 hown e43 (hw _ (List.mem_of_getElem? (i := 13) rfl)) (hw _ (List.mem_of_getElem? (i := 14) rfl)) (hw _ (List.mem_of_getElem? (i := 10) rfl)) (hw _ (List.mem_of_getElem? (i := 15) rfl)) (by decide) (rm3 l Z a0 hw [] a1 (12 : Int32) x5 x7 (f2_0 x5) x8 v18.2 16 T18.heap n0 z18 C18_o2 v45 hq45) (by decide) (by decide) (by rw [hml]; rfl) (lenOf pd_2 rfl) rfl (Nat.le_refl _) (hb hby at_374) (pc' := 377) rfl (by decide) (by decide) ?_
                            rintro _ T45 L45 X45 ⟨rfl, N45, e45⟩
                            replace X45 : Stand p l e room_1 s m args below meth c T45 (((((((((((((((((((((((((((((((locs ++ [⟨a1, Int32.toNatClampNeg (0 : Int32)⟩]) ++ [⟨a1, Int32.toNatClampNeg (1 : Int32)⟩]) ++ [⟨a1, Int32.toNatClampNeg (2 : Int32)⟩]) ++ [⟨a1, Int32.toNatClampNeg (3 : Int32)⟩]) ++ [⟨a1, Int32.toNatClampNeg (4 : Int32)⟩]) ++ [⟨a1, Int32.toNatClampNeg (5 : Int32)⟩]) ++ [⟨a1, Int32.toNatClampNeg (6 : Int32)⟩]) ++ [⟨a1, Int32.toNatClampNeg (7 : Int32)⟩]) ++ [⟨a1, Int32.toNatClampNeg (8 : Int32)⟩]) ++ [⟨a1, Int32.toNatClampNeg (9 : Int32)⟩]) ++ [⟨a1, Int32.toNatClampNeg (10 : Int32)⟩]) ++ [⟨a1, Int32.toNatClampNeg (11 : Int32)⟩]) ++ [⟨a1, Int32.toNatClampNeg (12 : Int32)⟩]) ++ [⟨a1, Int32.toNatClampNeg (13 : Int32)⟩]) ++ [⟨a1, Int32.toNatClampNeg (14 : Int32)⟩]) ++ [⟨a1, Int32.toNatClampNeg (15 : Int32)⟩]) ++ L18) ++ L19) ++ L21) ++ L23) ++ L25) ++ L27) ++ L29) ++ L31) ++ L33) ++ L35) ++ L37) ++ L39) ++ L41) ++ L43) ++ L45) 1 16 := X45
                            have M45 := Fr.app M43 N45
                            dsimp only [Option.toList, List.cons_append, List.nil_append]
                            by_cases hc46 : v45 = (0 : Int32)
                            · rw [if_pos hc46] at hr
                              refine o_ifYes X45 hx (hb hby at_377) (z_teq hc46).1 (pc' := 438) (by decide) (by decide) ?_
                              refine o_iconst X45 hx (hb hby at_438) (0 : Int32) rfl (pc' := 439) rfl ?_
                              obtain rfl : (0 : Int32) = r := Option.some.inj hr
                              exact o_retN X45 hx hlk (t := .boolean) (by simp) hret (hb hby at_439) rfl ⟨rfl, M45⟩ (by decide) (by decide)
                            · rw [if_neg hc46] at hr
                              refine o_ifNo X45 hx (hb hby at_377) (z_feq hc46).1 (pc' := 380) rfl ?_
                              refine o_aload X45 hx (hb hby at_380) rfl rfl (pc' := 382) rfl ?_
                              refine o_bipush X45 hx (hb hby at_382) (13 : Int32) rfl (pc' := 384) rfl ?_
                              refine o_lload X45 hx (hb hby at_384) rfl (pc' := 386) rfl ?_
                              refine o_iload X45 hx (hb hby at_386) rfl (pc' := 388) rfl ?_
                              refine o_iload X45 hx (hb hby at_388) rfl (pc' := 390) rfl ?_
                              refine o_iload X45 hx (hb hby at_390) rfl (pc' := 392) rfl ?_
                              rcases hq47 : f3_0 v18.2 16 (13 : Int32) x5 x7 (f2_0 x5) x8 with _ | v47
                              · rw [hq47] at hr; cases hr
                              rw [hq47] at hr
                              dsimp only [Option.bind] at hr
                              refine o_callS X45 hx hZ (argsL := [(.ref a1), (.int (13 : Int32)), (.long x5), (.int x7), (.int (f2_0 x5)), (.int x8)]) (rest := []) 0 hown e45 (hw _ (List.mem_of_getElem? (i := 13) rfl)) (hw _ (List.mem_of_getElem? (i := 14) rfl)) (hw _ (List.mem_of_getElem? (i := 10) rfl)) (hw _ (List.mem_of_getElem? (i := 15) rfl)) (by decide) (rm3 l Z a0 hw [] a1 (13 : Int32) x5 x7 (f2_0 x5) x8 v18.2 16 T18.heap n0 z18 C18_o2 v47 hq47) (by decide) (by decide) (by rw [hml]; rfl) (lenOf pd_2 rfl) rfl (Nat.le_refl _) (hb hby at_392) (pc' := 395) rfl (by decide) (by decide) ?_
                              rintro _ T47 L47 X47 ⟨rfl, N47, e47⟩
                              replace X47 : Stand p l e room_1 s m args below meth c T47 ((((((((((((((((((((((((((((((((locs ++ [⟨a1, Int32.toNatClampNeg (0 : Int32)⟩]) ++ [⟨a1, Int32.toNatClampNeg (1 : Int32)⟩]) ++ [⟨a1, Int32.toNatClampNeg (2 : Int32)⟩]) ++ [⟨a1, Int32.toNatClampNeg (3 : Int32)⟩]) ++ [⟨a1, Int32.toNatClampNeg (4 : Int32)⟩]) ++ [⟨a1, Int32.toNatClampNeg (5 : Int32)⟩]) ++ [⟨a1, Int32.toNatClampNeg (6 : Int32)⟩]) ++ [⟨a1, Int32.toNatClampNeg (7 : Int32)⟩]) ++ [⟨a1, Int32.toNatClampNeg (8 : Int32)⟩]) ++ [⟨a1, Int32.toNatClampNeg (9 : Int32)⟩]) ++ [⟨a1, Int32.toNatClampNeg (10 : Int32)⟩]) ++ [⟨a1, Int32.toNatClampNeg (11 : Int32)⟩]) ++ [⟨a1, Int32.toNatClampNeg (12 : Int32)⟩]) ++ [⟨a1, Int32.toNatClampNeg (13 : Int32)⟩]) ++ [⟨a1, Int32.toNatClampNeg (14 : Int32)⟩]) ++ [⟨a1, Int32.toNatClampNeg (15 : Int32)⟩]) ++ L18) ++ L19) ++ L21) ++ L23) ++ L25) ++ L27) ++ L29) ++ L31) ++ L33) ++ L35) ++ L37) ++ L39) ++ L41) ++ L43) ++ L45) ++ L47) 1 16 := X47
                              have M47 := Fr.app M45 N47
                              dsimp only [Option.toList, List.cons_append, List.nil_append]
                              by_cases hc48 : v47 = (0 : Int32)
                              · rw [if_pos hc48] at hr
                                refine o_ifYes X47 hx (hb hby at_395) (z_teq hc48).1 (pc' := 438) (by decide) (by decide) ?_
                                refine o_iconst X47 hx (hb hby at_438) (0 : Int32) rfl (pc' := 439) rfl ?_
                                obtain rfl : (0 : Int32) = r := Option.some.inj hr
                                exact o_retN X47 hx hlk (t := .boolean) (by simp) hret (hb hby at_439) rfl ⟨rfl, M47⟩ (by decide) (by decide)
                              · rw [if_neg hc48] at hr
                                refine o_ifNo X47 hx (hb hby at_395) (z_feq hc48).1 (pc' := 398) rfl ?_
                                refine o_aload X47 hx (hb hby at_398) rfl rfl (pc' := 400) rfl ?_
                                refine o_bipush X47 hx (hb hby at_400) (14 : Int32) rfl (pc' := 402) rfl ?_
                                refine o_lload X47 hx (hb hby at_402) rfl (pc' := 404) rfl ?_
                                refine o_iload X47 hx (hb hby at_404) rfl (pc' := 406) rfl ?_
                                refine o_iload X47 hx (hb hby at_406) rfl (pc' := 408) rfl ?_
                                refine o_iload X47 hx (hb hby at_408) rfl (pc' := 410) rfl ?_
                                rcases hq49 : f3_0 v18.2 16 (14 : Int32) x5 x7 (f2_0 x5) x8 with _ | v49
                                · rw [hq49] at hr; cases hr
                                rw [hq49] at hr
                                dsimp only [Option.bind] at hr
                                refine o_callS X47 hx hZ (argsL := [(.ref a1), (.int (14 : Int32)), (.long x5), (.int x7), (.int (f2_0 x5)), (.int x8)]) (rest := []) 0 hown e47 (hw _ (List.mem_of_getElem? (i := 13) rfl)) (hw _ (List.mem_of_getElem? (i := 14) rfl)) (hw _ (List.mem_of_getElem? (i := 10) rfl)) (hw _ (List.mem_of_getElem? (i := 15) rfl)) (by decide) (rm3 l Z a0 hw [] a1 (14 : Int32) x5 x7 (f2_0 x5) x8 v18.2 16 T18.heap n0 z18 C18_o2 v49 hq49) (by decide) (by decide) (by rw [hml]; rfl) (lenOf pd_2 rfl) rfl (Nat.le_refl _) (hb hby at_410) (pc' := 413) rfl (by decide) (by decide) ?_
                                rintro _ T49 L49 X49 ⟨rfl, N49, e49⟩
                                replace X49 : Stand p l e room_1 s m args below meth c T49 (((((((((((((((((((((((((((((((((locs ++ [⟨a1, Int32.toNatClampNeg (0 : Int32)⟩]) ++ [⟨a1, Int32.toNatClampNeg (1 : Int32)⟩]) ++ [⟨a1, Int32.toNatClampNeg (2 : Int32)⟩]) ++ [⟨a1, Int32.toNatClampNeg (3 : Int32)⟩]) ++ [⟨a1, Int32.toNatClampNeg (4 : Int32)⟩]) ++ [⟨a1, Int32.toNatClampNeg (5 : Int32)⟩]) ++ [⟨a1, Int32.toNatClampNeg (6 : Int32)⟩]) ++ [⟨a1, Int32.toNatClampNeg (7 : Int32)⟩]) ++ [⟨a1, Int32.toNatClampNeg (8 : Int32)⟩]) ++ [⟨a1, Int32.toNatClampNeg (9 : Int32)⟩]) ++ [⟨a1, Int32.toNatClampNeg (10 : Int32)⟩]) ++ [⟨a1, Int32.toNatClampNeg (11 : Int32)⟩]) ++ [⟨a1, Int32.toNatClampNeg (12 : Int32)⟩]) ++ [⟨a1, Int32.toNatClampNeg (13 : Int32)⟩]) ++ [⟨a1, Int32.toNatClampNeg (14 : Int32)⟩]) ++ [⟨a1, Int32.toNatClampNeg (15 : Int32)⟩]) ++ L18) ++ L19) ++ L21) ++ L23) ++ L25) ++ L27) ++ L29) ++ L31) ++ L33) ++ L35) ++ L37) ++ L39) ++ L41) ++ L43) ++ L45) ++ L47) ++ L49) 1 16 := X49
                                have M49 := Fr.app M47 N49
                                dsimp only [Option.toList, List.cons_append, List.nil_append]
                                by_cases hc50 : v49 = (0 : Int32)
                                · rw [if_pos hc50] at hr
                                  refine o_ifYes X49 hx (hb hby at_413) (z_teq hc50).1 (pc' := 438) (by decide) (by decide) ?_
                                  refine o_iconst X49 hx (hb hby at_438) (0 : Int32) rfl (pc' := 439) rfl ?_
                                  obtain rfl : (0 : Int32) = r := Option.some.inj hr
                                  exact o_retN X49 hx hlk (t := .boolean) (by simp) hret (hb hby at_439) rfl ⟨rfl, M49⟩ (by decide) (by decide)
                                · rw [if_neg hc50] at hr
                                  refine o_ifNo X49 hx (hb hby at_413) (z_feq hc50).1 (pc' := 416) rfl ?_
                                  refine o_aload X49 hx (hb hby at_416) rfl rfl (pc' := 418) rfl ?_
                                  refine o_bipush X49 hx (hb hby at_418) (15 : Int32) rfl (pc' := 420) rfl ?_
                                  refine o_lload X49 hx (hb hby at_420) rfl (pc' := 422) rfl ?_
                                  refine o_iload X49 hx (hb hby at_422) rfl (pc' := 424) rfl ?_
                                  refine o_iload X49 hx (hb hby at_424) rfl (pc' := 426) rfl ?_
                                  refine o_iload X49 hx (hb hby at_426) rfl (pc' := 428) rfl ?_
                                  rcases hq51 : f3_0 v18.2 16 (15 : Int32) x5 x7 (f2_0 x5) x8 with _ | v51
                                  · rw [hq51] at hr; cases hr
                                  rw [hq51] at hr
                                  dsimp only [Option.bind] at hr
                                  refine o_callS X49 hx hZ (argsL := [(.ref a1), (.int (15 : Int32)), (.long x5), (.int x7), (.int (f2_0 x5)), (.int x8)]) (rest := []) 0 hown e49 (hw _ (List.mem_of_getElem? (i := 13) rfl)) (hw _ (List.mem_of_getElem? (i := 14) rfl)) (hw _ (List.mem_of_getElem? (i := 10) rfl)) (hw _ (List.mem_of_getElem? (i := 15) rfl)) (by decide) (rm3 l Z a0 hw [] a1 (15 : Int32) x5 x7 (f2_0 x5) x8 v18.2 16 T18.heap n0 z18 C18_o2 v51 hq51) (by decide) (by decide) (by rw [hml]; rfl) (lenOf pd_2 rfl) rfl (Nat.le_refl _) (hb hby at_428) (pc' := 431) rfl (by decide) (by decide) ?_
                                  rintro _ T51 L51 X51 ⟨rfl, N51, e51⟩
                                  replace X51 : Stand p l e room_1 s m args below meth c T51 ((((((((((((((((((((((((((((((((((locs ++ [⟨a1, Int32.toNatClampNeg (0 : Int32)⟩]) ++ [⟨a1, Int32.toNatClampNeg (1 : Int32)⟩]) ++ [⟨a1, Int32.toNatClampNeg (2 : Int32)⟩]) ++ [⟨a1, Int32.toNatClampNeg (3 : Int32)⟩]) ++ [⟨a1, Int32.toNatClampNeg (4 : Int32)⟩]) ++ [⟨a1, Int32.toNatClampNeg (5 : Int32)⟩]) ++ [⟨a1, Int32.toNatClampNeg (6 : Int32)⟩]) ++ [⟨a1, Int32.toNatClampNeg (7 : Int32)⟩]) ++ [⟨a1, Int32.toNatClampNeg (8 : Int32)⟩]) ++ [⟨a1, Int32.toNatClampNeg (9 : Int32)⟩]) ++ [⟨a1, Int32.toNatClampNeg (10 : Int32)⟩]) ++ [⟨a1, Int32.toNatClampNeg (11 : Int32)⟩]) ++ [⟨a1, Int32.toNatClampNeg (12 : Int32)⟩]) ++ [⟨a1, Int32.toNatClampNeg (13 : Int32)⟩]) ++ [⟨a1, Int32.toNatClampNeg (14 : Int32)⟩]) ++ [⟨a1, Int32.toNatClampNeg (15 : Int32)⟩]) ++ L18) ++ L19) ++ L21) ++ L23) ++ L25) ++ L27) ++ L29) ++ L31) ++ L33) ++ L35) ++ L37) ++ L39) ++ L41) ++ L43) ++ L45) ++ L47) ++ L49) ++ L51) 1 16 := X51
                                  have M51 := Fr.app M49 N51
                                  dsimp only [Option.toList, List.cons_append, List.nil_append]
                                  by_cases hc52 : v51 = (0 : Int32)
                                  · rw [if_pos hc52] at hr
                                    refine o_ifYes X51 hx (hb hby at_431) (z_teq hc52).1 (pc' := 438) (by decide) (by decide) ?_
                                    refine o_iconst X51 hx (hb hby at_438) (0 : Int32) rfl (pc' := 439) rfl ?_
                                    obtain rfl : (0 : Int32) = r := Option.some.inj hr
                                    exact o_retN X51 hx hlk (t := .boolean) (by simp) hret (hb hby at_439) rfl ⟨rfl, M51⟩ (by decide) (by decide)
                                  · rw [if_neg hc52] at hr
                                    refine o_ifNo X51 hx (hb hby at_431) (z_feq hc52).1 (pc' := 434) rfl ?_
                                    refine o_iconst X51 hx (hb hby at_434) (1 : Int32) rfl (pc' := 435) rfl ?_
                                    refine o_goto X51 hx (hb hby at_435) (pc' := 439) (by decide) (by decide) ?_
                                    obtain rfl : (1 : Int32) = r := Option.some.inj hr
                                    exact o_retN X51 hx hlk (t := .boolean) (by simp) hret (hb hby at_439) rfl ⟨rfl, M51⟩ (by decide) (by decide)
  · rw [if_neg hc20] at hr
    refine o_icmpNo X19 hx (hb hby at_147) (c_feq hc20).1 (pc' := 150) rfl ?_
    refine o_iconst X19 hx (hb hby at_150) (0 : Int32) rfl (pc' := 151) rfl ?_
    obtain rfl : (0 : Int32) = r := Option.some.inj hr
    exact o_retN X19 hx hlk (t := .boolean) (by simp) hret (hb hby at_151) rfl ⟨rfl, M19⟩ (by decide) (by decide)
def f0_12 (x3 : Int32) (x4 : Int32) (x5 : Int64) : Option (Int32) := (f0_26 x5 ((x3 &&& (2147483647 : Int32)) % (7 : Int32)) (x4.toInt8.toInt32))
set_option maxRecDepth 65536 in
set_option maxHeartbeats 40000000 in
theorem b0_12 {p : Program} {l : Launch} {e : Env} {s : State} {m : MethodId} {args : Array Value} {below : List Frame} {meth : Method} {c : Code} {Z : State} {a0 : Array Value} {n0 : Nat} (hx : p.tables.exec = Jvm.exec) (hZ : Z.Warmed39 s.vm) (hw : ∀ d ∈ tables_1, d.before a0 Z = true) (hby : c.code = code) (hml : c.maxLocals = 12) (hown : s.vm.findClass "com/example/libtreegram/libtreegram/io/Leb128PutPinLaw" = some m.cls) (hnm : meth.name = "law") (hret : meth.sig.returnType = some .boolean) (hlk : meth.locks = false)  {T : State} {locs : List Loc} {h : Heap} (d0 : Int64) (d2 : Int32) (x3 : Int32) (x4 : Int32) (x5 : Int64) (r : Int32) (X : Stand p l e room_1 s m args below meth c T locs 0 0) (eT : T.heap = h) (N : Fr n0 locs) (hsz : n0 ≤ h.size) (hr : f0_12 x3 x4 x5 = some r) :
    OG p e below s (fun v h L => v = (some (.int r)) ∧ Fr n0 L) 16 128 T (mkF m 12 #[.val (.long d0), .second, .val (.int d2), .val (.int x3), .val (.int x4), .val (.long x5), .second, .unset, .unset, .unset, .unset, .unset] []) := by
  have hr : (f0_26 x5 ((x3 &&& (2147483647 : Int32)) % (7 : Int32)) (x4.toInt8.toInt32)) = some r := hr
  refine o_iload_n X hx (hb hby at_12) rfl (pc' := 13) rfl ?_
  refine o_ldcInt X hx hZ hown (hb hby at_13) (hw _ (List.mem_of_getElem? (i := 1) rfl)) (pc' := 15) rfl ?_
  refine o_iand X hx (hb hby at_15) (pc' := 16) rfl ?_
  refine o_bipush X hx (hb hby at_16) (7 : Int32) rfl (pc' := 18) rfl ?_
  refine o_irem X hx (hb hby at_18) (by decide) (pc' := 19) rfl ?_
  refine o_istore X hx (hb hby at_19) #[.val (.long d0), .second, .val (.int d2), .val (.int x3), .val (.int x4), .val (.long x5), .second, .val (.int ((x3 &&& (2147483647 : Int32)) % (7 : Int32))), .unset, .unset, .unset, .unset] rfl (pc' := 21) rfl ?_
  refine o_iload X hx (hb hby at_21) rfl (pc' := 23) rfl ?_
  refine o_i2b X hx (hb hby at_23) (pc' := 24) rfl ?_
  refine o_istore X hx (hb hby at_24) #[.val (.long d0), .second, .val (.int d2), .val (.int x3), .val (.int x4), .val (.long x5), .second, .val (.int ((x3 &&& (2147483647 : Int32)) % (7 : Int32))), .val (.int (x4.toInt8.toInt32)), .unset, .unset, .unset] rfl (pc' := 26) rfl ?_
  exact b0_26 hx hZ hw hby hml hown hnm hret hlk d0 d2 x3 x4 x5 ((x3 &&& (2147483647 : Int32)) % (7 : Int32)) (x4.toInt8.toInt32) r X eT N hsz hr
def f0_0 (x0 : Int64) (x2 : Int32) (x3 : Int32) (x4 : Int32) : Option (Int32) := (f0_12 x3 x4 (((x0 &&& (9223372036854775807 : Int64)).toUInt64 >>> ((x2 &&& (63 : Int32)) &&& 0x3f).toInt64.toUInt64).toInt64))
set_option maxRecDepth 65536 in
set_option maxHeartbeats 40000000 in
theorem b0_0 {p : Program} {l : Launch} {e : Env} {s : State} {m : MethodId} {args : Array Value} {below : List Frame} {meth : Method} {c : Code} {Z : State} {a0 : Array Value} {n0 : Nat} (hx : p.tables.exec = Jvm.exec) (hZ : Z.Warmed39 s.vm) (hw : ∀ d ∈ tables_1, d.before a0 Z = true) (hby : c.code = code) (hml : c.maxLocals = 12) (hown : s.vm.findClass "com/example/libtreegram/libtreegram/io/Leb128PutPinLaw" = some m.cls) (hnm : meth.name = "law") (hret : meth.sig.returnType = some .boolean) (hlk : meth.locks = false)  {T : State} {locs : List Loc} {h : Heap} (x0 : Int64) (x2 : Int32) (x3 : Int32) (x4 : Int32) (r : Int32) (X : Stand p l e room_1 s m args below meth c T locs 0 0) (eT : T.heap = h) (N : Fr n0 locs) (hsz : n0 ≤ h.size) (hr : f0_0 x0 x2 x3 x4 = some r) :
    OG p e below s (fun v h L => v = (some (.int r)) ∧ Fr n0 L) 16 128 T (mkF m 0 #[.val (.long x0), .second, .val (.int x2), .val (.int x3), .val (.int x4), .unset, .unset, .unset, .unset, .unset, .unset, .unset] []) := by
  have hr : (f0_12 x3 x4 (((x0 &&& (9223372036854775807 : Int64)).toUInt64 >>> ((x2 &&& (63 : Int32)) &&& 0x3f).toInt64.toUInt64).toInt64)) = some r := hr
  refine o_lload_n X hx (hb hby at_0) rfl (pc' := 1) rfl ?_
  refine o_ldc2Long X hx hZ hown (hb hby at_1) (hw _ (List.mem_of_getElem? (i := 0) rfl)) (pc' := 4) rfl ?_
  refine o_land X hx (hb hby at_4) (pc' := 5) rfl ?_
  refine o_iload_n X hx (hb hby at_5) rfl (pc' := 6) rfl ?_
  refine o_bipush X hx (hb hby at_6) (63 : Int32) rfl (pc' := 8) rfl ?_
  refine o_iand X hx (hb hby at_8) (pc' := 9) rfl ?_
  refine o_lushr X hx (hb hby at_9) (pc' := 10) rfl ?_
  refine o_lstore X hx (hb hby at_10) #[.val (.long x0), .second, .val (.int x2), .val (.int x3), .val (.int x4), .val (.long (((x0 &&& (9223372036854775807 : Int64)).toUInt64 >>> ((x2 &&& (63 : Int32)) &&& 0x3f).toInt64.toUInt64).toInt64)), .second, .unset, .unset, .unset, .unset, .unset] rfl (pc' := 12) rfl ?_
  exact b0_12 hx hZ hw hby hml hown hnm hret hlk x0 x2 x3 x4 (((x0 &&& (9223372036854775807 : Int64)).toUInt64 >>> ((x2 &&& (63 : Int32)) &&& 0x3f).toInt64.toUInt64).toInt64) r X eT N hsz hr
theorem own_iand (x m : Int32) (k : Nat) (hm : m.toBitVec.toNat = 2 ^ k - 1) (hk : k < 31) : (x &&& m).toInt = ((x.toBitVec.toNat % 2 ^ k : Nat) : Int) := by
  have e : (x &&& m).toBitVec.toNat = x.toBitVec.toNat % 2 ^ k := by
    rw [Int32.toBitVec_and, BitVec.toNat_and, hm, Nat.and_two_pow_sub_one_eq_mod]
  have h1 : 2 ^ k ≤ 2 ^ 30 := Nat.pow_le_pow_right (by omega) (by omega)
  have h2 := Nat.mod_lt x.toBitVec.toNat (Nat.pow_pos (n := k) (show 0 < 2 by omega))
  rw [← Int32.toInt_toBitVec, BitVec.toInt_eq_toNat_cond, if_pos (by omega), e]
theorem own_ei (x y : Int32) : x = y ↔ x.toInt = y.toInt := by rw [Int32.toInt_inj]
theorem own_toNat32 {x : Int32} (h : 0 ≤ x.toInt) : x.toInt = x.toBitVec.toNat := by
  rw [← Int32.toInt_toBitVec] at *
  rw [BitVec.toInt_eq_toNat_cond] at *
  have := x.toBitVec.isLt
  split at h <;> rename_i q
  · rw [if_pos q]
  · omega
theorem own_nn (x : Int32) : 0 ≤ (x &&& 2147483647).toInt := by
  have : (x &&& (2147483647 : Int32)).toBitVec.msb = false := by
    rw [Int32.toBitVec_and, BitVec.msb_and, show (2147483647 : Int32).toBitVec.msb = false by decide, Bool.and_false]
  rw [← Int32.toInt_toBitVec, BitVec.toInt_eq_msb_cond, this]; simp
theorem own_max (x : Int64) : 0 ≤ (x &&& (9223372036854775807 : Int64)).toInt := by
  have : (x &&& (9223372036854775807 : Int64)).toBitVec.msb = false := by
    rw [Int64.toBitVec_and, BitVec.msb_and, show (9223372036854775807 : Int64).toBitVec.msb = false by decide, Bool.and_false]
  rw [← Int64.toInt_toBitVec, BitVec.toInt_eq_msb_cond, this]; simp
theorem own_oi {a : Nat} (h : a < 2 ^ 31) : (Int32.ofNat a).toInt = a := Int32.toInt_ofNat_of_lt (by omega)
theorem own_lt {a b : Nat} (ha : a < 2 ^ 31) (hb : b < 2 ^ 31) : Int32.ofNat a < Int32.ofNat b ↔ a < b := by
  rw [Int32.lt_iff_toInt_lt, own_oi ha, own_oi hb]; omega
theorem own_clamp {a : Nat} (h : a < 2 ^ 31) : Int32.toNatClampNeg (Int32.ofNat a) = a := by
  show (Int32.ofNat a).toInt.toNat = a
  rw [own_oi h]; omega
theorem own_nneg {a : Nat} (h : a < 2 ^ 31) : ¬ Int32.ofNat a < 0 := by
  rw [Int32.lt_iff_toInt_lt, own_oi h, show (0 : Int32).toInt = 0 from rfl]; omega
def dg (N : Nat) (i : Nat) : Nat := N / 2 ^ (7 * i) % 128
theorem own_dg (N i : Nat) : dg N i < 128 := Nat.mod_lt _ (by omega)
def W1 (d : Nat) : Int32 := nar .byte ((((Int64.ofNat d) ||| (128 : Int64)).toInt32).toInt8.toInt32)
def W0 (d : Nat) : Int32 := nar .byte (((Int64.ofNat d).toInt32).toInt8.toInt32)
def fb (N L i : Nat) : Int32 := if i + 1 < L then W1 (dg N i) else W0 (dg N i)
theorem own_W : ∀ d : Fin 128, W1 d.val = ((Int32.ofNat d.val ||| (128 : Int32)).toInt8.toInt32) ∧ W0 d.val = ((Int32.ofNat d.val).toInt8.toInt32) := by decide +kernel
theorem own_nl {M : Nat} (h : M < 2 ^ 63) : (Int64.ofNat M).toInt = M := Int64.toInt_ofNat_of_lt h
theorem own_bn (M : Nat) (h : M < 2 ^ 63) : (Int64.ofNat M).toBitVec.toNat = M := by
  show (BitVec.ofNat 64 M).toNat = M
  rw [BitVec.toNat_ofNat, Nat.mod_eq_of_lt (by omega)]
theorem own_bvnat {x y : Int64} (h : x.toBitVec.toNat = y.toBitVec.toNat) : x = y := by
  rw [← Int64.toBitVec_inj, ← BitVec.toNat_inj, h]
theorem own_and127 (M : Nat) (h : M < 2 ^ 63) : Int64.ofNat M &&& (127 : Int64) = Int64.ofNat (M % 128) := by
  apply own_bvnat
  rw [Int64.toBitVec_and, BitVec.toNat_and, own_bn M h, show (127 : Int64).toBitVec.toNat = 2 ^ 7 - 1 from rfl, Nat.and_two_pow_sub_one_eq_mod, own_bn _ (by omega)]
theorem own_ush7 (M : Nat) (h : M < 2 ^ 63) : (((Int64.ofNat M).toUInt64 >>> ((7 : Int32) &&& 0x3f).toInt64.toUInt64).toInt64) = Int64.ofNat (M / 128) := by
  apply own_bvnat
  rw [own_bn _ (by omega)]
  show ((Int64.ofNat M).toUInt64 >>> (7 : UInt64)).toNat = _
  rw [UInt64.toNat_shiftRight]
  show (Int64.ofNat M).toBitVec.toNat >>> 7 = _
  rw [own_bn M h, Nat.shiftRight_eq_div_pow]
theorem own_loop (N : Nat) (hN : N < 2 ^ 63) (a L : Nat) (ha : a ≤ 6) (hL : 1 ≤ L) (hL9 : L ≤ 9) (h1 : N < 2 ^ (7 * L)) (h2 : ∀ i, i + 1 < L → 2 ^ (7 * (i + 1)) ≤ N) :
    ∀ (j i fuel : Nat) (c : Nat → Int32), i + j + 1 = L → j < fuel → ∃ c' : Nat → Int32, f1_6 fuel c 16 (Int32.ofNat (a + i)) (Int64.ofNat (N / 2 ^ (7 * i))) = some (Int32.ofNat (a + L), c') ∧ ∀ q, c' q = if a + i ≤ q ∧ q < a + L then fb N L (q - a) else c q := by
  intro j
  induction j with
  | zero =>
    intro i fuel c e1 e2
    obtain ⟨f, rfl⟩ : ∃ f, fuel = f + 1 := ⟨fuel - 1, by omega⟩
    have hM : N / 2 ^ (7 * i) < 2 ^ 63 := Nat.lt_of_le_of_lt (Nat.div_le_self _ _) hN
    have hs : N / 2 ^ (7 * i) < 128 := by
      rw [Nat.div_lt_iff_lt_mul (Nat.pow_pos (by omega)), show (128 : Nat) = 2 ^ 7 from rfl, ← Nat.pow_add, show 7 + 7 * i = 7 * L by omega]; exact h1
    unfold f1_6
    rw [if_pos (by rw [Int64.lt_iff_toInt_lt, own_nl hM, show (128 : Int64).toInt = 128 from rfl]; omega), own_clamp (by omega), if_pos ⟨own_nneg (by omega), by omega⟩]
    rw [show Int32.ofNat (a + i) + 1 = Int32.ofNat (a + L) from (Int32.ofNat_add (a + i) 1).symm.trans (by rw [show a + i + 1 = a + L by omega])]
    refine ⟨_, rfl, fun q => ?_⟩
    unfold upd fb dg W0
    by_cases c1 : q = a + i
    · subst c1
      rw [if_pos rfl, if_pos ⟨by omega, by omega⟩, if_neg (by omega), show a + i - a = i by omega, Nat.mod_eq_of_lt hs]
    · rw [if_neg c1, if_neg (by omega)]
  | succ j ih =>
    intro i fuel c e1 e2
    obtain ⟨f, rfl⟩ : ∃ f, fuel = f + 1 := ⟨fuel - 1, by omega⟩
    have hM : N / 2 ^ (7 * i) < 2 ^ 63 := Nat.lt_of_le_of_lt (Nat.div_le_self _ _) hN
    have hs : ¬ N / 2 ^ (7 * i) < 128 := by
      rw [Nat.div_lt_iff_lt_mul (Nat.pow_pos (by omega)), show (128 : Nat) = 2 ^ 7 from rfl, ← Nat.pow_add, show 7 + 7 * i = 7 * (i + 1) by omega]
      have := h2 i (by omega); omega
    unfold f1_6
    rw [if_neg (by rw [Int64.lt_iff_toInt_lt, own_nl hM, show (128 : Int64).toInt = 128 from rfl]; omega), own_clamp (by omega), if_pos ⟨own_nneg (by omega), by omega⟩, own_and127 _ hM, own_ush7 _ hM]
    rw [show Int32.ofNat (a + i) + 1 = Int32.ofNat (a + (i + 1)) from (Int32.ofNat_add (a + i) 1).symm, Nat.div_div_eq_div_mul, show (128 : Nat) = 2 ^ 7 from rfl, ← Nat.pow_add, show 7 * i + 7 = 7 * (i + 1) by omega]
    obtain ⟨c', q1, q2⟩ := ih (i + 1) f (upd c (a + i) (nar .byte ((((Int64.ofNat (N / 2 ^ (7 * i) % 2 ^ 7)) ||| (128 : Int64)).toInt32).toInt8.toInt32))) (by omega) (by omega)
    refine ⟨c', q1, fun q => ?_⟩
    rw [q2]
    by_cases c1 : a + (i + 1) ≤ q ∧ q < a + L
    · rw [if_pos c1, if_pos ⟨by omega, c1.2⟩]
    · rw [if_neg c1]
      unfold upd
      by_cases c2 : q = a + i
      · subst c2
        rw [if_pos rfl, if_pos ⟨by omega, by omega⟩, show a + i - a = i by omega]
        unfold fb W1 dg
        rw [if_pos (by omega)]
      · rw [if_neg c2, if_neg (by omega)]
theorem own_len (x : Int64) (hx : 0 ≤ x.toInt) : ∃ L, 1 ≤ L ∧ L ≤ 9 ∧ f2_0 x = Int32.ofNat L ∧ x.toInt < 2 ^ (7 * L) ∧ ∀ i, i + 1 < L → (2 : Int) ^ (7 * (i + 1)) ≤ x.toInt := by
  have hl := x.toInt_lt
  have pw : ∀ i j : Nat, i ≤ j → (2 : Int) ^ (7 * i) ≤ 2 ^ (7 * j) := fun i j h => by
    have := Nat.pow_le_pow_right (n := 2) (by omega) (show 7 * i ≤ 7 * j by omega)
    exact_mod_cast this
  unfold f2_0
  simp only [Int64.lt_iff_toInt_lt, show (128 : Int64).toInt = 2 ^ (7 * 1) from rfl, show (16384 : Int64).toInt = 2 ^ (7 * 2) from rfl, show (2097152 : Int64).toInt = 2 ^ (7 * 3) from rfl, show (268435456 : Int64).toInt = 2 ^ (7 * 4) from rfl, show (34359738368 : Int64).toInt = 2 ^ (7 * 5) from rfl, show (4398046511104 : Int64).toInt = 2 ^ (7 * 6) from rfl, show (562949953421312 : Int64).toInt = 2 ^ (7 * 7) from rfl, show (72057594037927936 : Int64).toInt = 2 ^ (7 * 8) from rfl]
  by_cases c1 : x.toInt < 2 ^ (7 * 1)
  · exact ⟨1, by omega, by omega, by rw [if_pos c1]; rfl, c1, fun i h => by omega⟩
  by_cases c2 : x.toInt < 2 ^ (7 * 2)
  · exact ⟨2, by omega, by omega, by rw [if_neg c1, if_pos c2]; rfl, c2, fun i h => Int.le_trans (pw (i + 1) 1 (by omega)) (Int.not_lt.mp c1)⟩
  by_cases c3 : x.toInt < 2 ^ (7 * 3)
  · exact ⟨3, by omega, by omega, by rw [if_neg c1, if_neg c2, if_pos c3]; rfl, c3, fun i h => Int.le_trans (pw (i + 1) 2 (by omega)) (Int.not_lt.mp c2)⟩
  by_cases c4 : x.toInt < 2 ^ (7 * 4)
  · exact ⟨4, by omega, by omega, by rw [if_neg c1, if_neg c2, if_neg c3, if_pos c4]; rfl, c4, fun i h => Int.le_trans (pw (i + 1) 3 (by omega)) (Int.not_lt.mp c3)⟩
  by_cases c5 : x.toInt < 2 ^ (7 * 5)
  · exact ⟨5, by omega, by omega, by rw [if_neg c1, if_neg c2, if_neg c3, if_neg c4, if_pos c5]; rfl, c5, fun i h => Int.le_trans (pw (i + 1) 4 (by omega)) (Int.not_lt.mp c4)⟩
  by_cases c6 : x.toInt < 2 ^ (7 * 6)
  · exact ⟨6, by omega, by omega, by rw [if_neg c1, if_neg c2, if_neg c3, if_neg c4, if_neg c5, if_pos c6]; rfl, c6, fun i h => Int.le_trans (pw (i + 1) 5 (by omega)) (Int.not_lt.mp c5)⟩
  by_cases c7 : x.toInt < 2 ^ (7 * 7)
  · exact ⟨7, by omega, by omega, by rw [if_neg c1, if_neg c2, if_neg c3, if_neg c4, if_neg c5, if_neg c6, if_pos c7]; rfl, c7, fun i h => Int.le_trans (pw (i + 1) 6 (by omega)) (Int.not_lt.mp c6)⟩
  by_cases c8 : x.toInt < 2 ^ (7 * 8)
  · exact ⟨8, by omega, by omega, by rw [if_neg c1, if_neg c2, if_neg c3, if_neg c4, if_neg c5, if_neg c6, if_neg c7, if_pos c8]; rfl, c8, fun i h => Int.le_trans (pw (i + 1) 7 (by omega)) (Int.not_lt.mp c7)⟩
  · exact ⟨9, by omega, by omega, by rw [if_neg c1, if_neg c2, if_neg c3, if_neg c4, if_neg c5, if_neg c6, if_neg c7, if_neg c8]; rfl, by omega, fun i h => Int.le_trans (pw (i + 1) 8 (by omega)) (Int.not_lt.mp c8)⟩
theorem own_sh : ∀ i : Fin 10, (((7 : Int32) * Int32.ofNat i.val) &&& 0x3f).toInt64.toUInt64.toNat % 64 = 7 * i.val := by decide +kernel
theorem own_digit (n : Int64) (i : Nat) (hi : i < 10) : ((((n.toUInt64 >>> (((7 : Int32) * Int32.ofNat i) &&& 0x3f).toInt64.toUInt64).toInt64) &&& (127 : Int64)).toInt32) = Int32.ofNat (dg n.toBitVec.toNat i) := by
  have h := own_sh ⟨i, hi⟩
  have e : (((n.toUInt64 >>> (((7 : Int32) * Int32.ofNat i) &&& 0x3f).toInt64.toUInt64).toInt64) &&& (127 : Int64)).toBitVec.toNat = dg n.toBitVec.toNat i := by
    rw [Int64.toBitVec_and, BitVec.toNat_and, show (127 : Int64).toBitVec.toNat = 2 ^ 7 - 1 from rfl, Nat.and_two_pow_sub_one_eq_mod]
    show (n.toUInt64 >>> _).toNat % 2 ^ 7 = _
    rw [UInt64.toNat_shiftRight, h, Nat.shiftRight_eq_div_pow]; rfl
  have hd := own_dg n.toBitVec.toNat i
  generalize (((n.toUInt64 >>> (((7 : Int32) * Int32.ofNat i) &&& 0x3f).toInt64.toUInt64).toInt64) &&& (127 : Int64)) = u at *
  rw [← Int32.toBitVec_inj, ← BitVec.toNat_inj]
  show (u.toBitVec.signExtend 32).toNat = (BitVec.ofNat 32 (dg n.toBitVec.toNat i)).toNat
  rw [BitVec.signExtend_eq_setWidth_of_le _ (by omega), BitVec.toNat_setWidth, BitVec.toNat_ofNat, e]
theorem own_sub (s i : Nat) (h : s ≤ i) : Int32.ofNat i - Int32.ofNat s = Int32.ofNat (i - s) := by
  have : i = (i - s) + s := by omega
  rw [this, Int32.ofNat_add, Int32.add_sub_cancel]; simp
theorem own_ok (n : Int64) (a L i : Nat) (ha : a ≤ 6) (hL : 1 ≤ L) (hL9 : L ≤ 9) (hi : i < 16) (f : Int32) (c : Nat → Int32) (hc : c i = if a ≤ i ∧ i < a + L then fb n.toBitVec.toNat L (i - a) else f) : f3_0 c 16 (Int32.ofNat i) n (Int32.ofNat a) (Int32.ofNat L) f = some 1 := by
  unfold f3_0 f3_15
  have t64 : ∀ v, c i = v → f3_64 c 16 (Int32.ofNat i) v = some 1 := fun v hv => by
    unfold f3_64
    rw [own_clamp (by omega), if_pos ⟨own_nneg (by omega), by omega⟩, if_pos hv]
  by_cases c1 : i < a
  · rw [if_pos ((own_lt (by omega) (by omega)).mpr c1)]
    exact t64 _ (by rw [hc, if_neg (by omega)])
  · rw [if_neg (fun z => c1 ((own_lt (by omega) (by omega)).mp z)), ← Int32.ofNat_add]
    by_cases c2 : i < a + L
    · rw [if_pos ((own_lt (by omega) (by omega)).mpr c2), own_sub a i (by omega), own_digit n (i - a) (by omega)]
      have hd := own_W ⟨dg n.toBitVec.toNat (i - a), own_dg _ _⟩
      rw [if_pos ⟨by omega, c2⟩] at hc
      unfold fb at hc
      unfold f3_42 f3_59
      have e1 : Int32.ofNat L - 1 = Int32.ofNat (L - 1) := own_sub 1 L hL
      rw [e1]
      by_cases c3 : i - a < L - 1
      · rw [if_pos ((own_lt (by omega) (by omega)).mpr c3)]
        exact t64 _ (by rw [hc, if_pos (by omega)]; exact hd.1)
      · rw [if_neg (fun z => c3 ((own_lt (by omega) (by omega)).mp z))]
        exact t64 _ (by rw [hc, if_neg (by omega)]; exact hd.2)
    · rw [if_neg (fun z => c2 ((own_lt (by omega) (by omega)).mp z))]
      exact t64 _ (by rw [hc, if_neg (by omega)])
theorem own_li (v : Int32) : ∀ q, q < 16 → li [v, v, v, v, v, v, v, v, v, v, v, v, v, v, v, v] q = v := by
  intro q hq
  have : q = 0 ∨ q = 1 ∨ q = 2 ∨ q = 3 ∨ q = 4 ∨ q = 5 ∨ q = 6 ∨ q = 7 ∨ q = 8 ∨ q = 9 ∨ q = 10 ∨ q = 11 ∨ q = 12 ∨ q = 13 ∨ q = 14 ∨ q = 15 := by omega
  rcases this with rfl | rfl | rfl | rfl | rfl | rfl | rfl | rfl | rfl | rfl | rfl | rfl | rfl | rfl | rfl | rfl <;> rfl
theorem own_26 (n : Int64) (hn : 0 ≤ n.toInt) (a : Nat) (ha : a ≤ 6) (f : Int32) (hf : nar .byte f = f) : f0_26 n (Int32.ofNat a) f = some 1 := by
  obtain ⟨L, hL, hL9, hLe, u1, u2⟩ := own_len n hn
  have hN : n.toInt = n.toBitVec.toNat := by
    rw [← Int64.toInt_toBitVec] at *
    rw [BitVec.toInt_eq_toNat_cond] at *
    have := n.toBitVec.isLt
    split at hn <;> rename_i q
    · rw [if_pos q]
    · omega
  have hNl : n.toBitVec.toNat < 2 ^ 63 := by have := n.toInt_lt; omega
  have w1 : n.toBitVec.toNat < 2 ^ (7 * L) := by rw [hN] at u1; exact_mod_cast u1
  have w2 : ∀ i, i + 1 < L → 2 ^ (7 * (i + 1)) ≤ n.toBitVec.toNat := fun i h => by have := u2 i h; rw [hN] at this; exact_mod_cast this
  obtain ⟨c', q1, q2⟩ := own_loop n.toBitVec.toNat hNl a L ha hL hL9 w1 w2 (L - 1) 0 10 (li [f, f, f, f, f, f, f, f, f, f, f, f, f, f, f, f]) (by omega) (by omega)
  have hnn : Int64.ofNat (n.toBitVec.toNat / 2 ^ (7 * 0)) = n := by
    apply own_bvnat
    rw [Nat.mul_zero, Nat.pow_zero, Nat.div_one, own_bn _ hNl]
  rw [hnn, Nat.add_zero] at q1
  have ok : ∀ i, i < 16 → f3_0 c' 16 (Int32.ofNat i) n (Int32.ofNat a) (Int32.ofNat L) f = some 1 := fun i hi =>
    own_ok n a L i ha hL hL9 hi f c' (by
      rw [q2 i, Nat.add_zero]
      by_cases z : a ≤ i ∧ i < a + L
      · rw [if_pos z, if_pos z]
      · rw [if_neg z, if_neg z, own_li f i hi])
  unfold f0_26 f1_0
  rw [hf, q1, hLe]
  dsimp only [Option.bind]
  rw [if_pos (Int32.ofNat_add a L)]
  rw [show (0 : Int32) = Int32.ofNat 0 from rfl, show (1 : Int32) = Int32.ofNat 1 from rfl, show (2 : Int32) = Int32.ofNat 2 from rfl, show (3 : Int32) = Int32.ofNat 3 from rfl, show (4 : Int32) = Int32.ofNat 4 from rfl, show (5 : Int32) = Int32.ofNat 5 from rfl, show (6 : Int32) = Int32.ofNat 6 from rfl, show (7 : Int32) = Int32.ofNat 7 from rfl, show (8 : Int32) = Int32.ofNat 8 from rfl, show (9 : Int32) = Int32.ofNat 9 from rfl, show (10 : Int32) = Int32.ofNat 10 from rfl, show (11 : Int32) = Int32.ofNat 11 from rfl, show (12 : Int32) = Int32.ofNat 12 from rfl, show (13 : Int32) = Int32.ofNat 13 from rfl, show (14 : Int32) = Int32.ofNat 14 from rfl, show (15 : Int32) = Int32.ofNat 15 from rfl]
  rw [ok 0 (by omega), ok 1 (by omega), ok 2 (by omega), ok 3 (by omega), ok 4 (by omega), ok 5 (by omega), ok 6 (by omega), ok 7 (by omega), ok 8 (by omega), ok 9 (by omega), ok 10 (by omega), ok 11 (by omega), ok 12 (by omega), ok 13 (by omega), ok 14 (by omega), ok 15 (by omega)]
  rfl
theorem own_iof (x : Int32) (h : 0 ≤ x.toInt) : x = Int32.ofNat x.toInt.toNat := by
  rw [own_ei, own_oi (by have := x.toInt_lt; omega)]; omega
theorem own_ushn (x : Int64) (j : UInt64) (hx : 0 ≤ x.toInt) : 0 ≤ ((x.toUInt64 >>> j).toInt64).toInt := by
  have e : ((x.toUInt64 >>> j).toInt64).toBitVec.toNat = x.toBitVec.toNat / 2 ^ (j.toNat % 64) := by
    show (x.toUInt64 >>> j).toNat = _
    rw [UInt64.toNat_shiftRight, Nat.shiftRight_eq_div_pow]; rfl
  have l := Nat.div_le_self x.toBitVec.toNat (2 ^ (j.toNat % 64))
  have hN : x.toBitVec.toNat < 2 ^ 63 := by
    rw [← Int64.toInt_toBitVec, BitVec.toInt_eq_toNat_cond] at hx
    have := x.toBitVec.isLt
    split at hx <;> omega
  rw [← Int64.toInt_toBitVec, BitVec.toInt_eq_toNat_cond, if_pos (by omega)]; omega
theorem law_true (x0 : Int64) (x2 x3 x4 : Int32) : f0_0 x0 x2 x3 x4 = some 1 := by
  unfold f0_0 f0_12
  have n := own_nn x3
  have e : ((x3 &&& 2147483647) % 7).toInt = (x3 &&& 2147483647).toInt % 7 := by rw [Int32.toInt_mod, show (7 : Int32).toInt = 7 from rfl, Int.tmod_eq_emod_of_nonneg n]
  rw [own_iof ((x3 &&& 2147483647) % 7) (by omega)]
  refine own_26 _ (own_ushn _ _ (own_max _)) _ (by omega) _ ?_
  show x4.toInt8.toInt32.toInt8.toInt32 = x4.toInt8.toInt32
  simp

theorem pn_0 : plainName "com/example/libtreegram/libtreegram/io/Leb128PutPinLaw" = true := by first | (simp [plainName, overriddenIn]; done) | decide +kernel
theorem ef_0 (m : MethodId) (x0 : Int64) (x2 : Int32) (x3 : Int32) (x4 : Int32) : entryFrame m #[(.long x0), (.int x2), (.int x3), (.int x4)] maxLocals = (mkF m 0 #[.val (.long x0), .second, .val (.int x2), .val (.int x3), .val (.int x4), .unset, .unset, .unset, .unset, .unset, .unset, .unset] []) := by first | (simp [entryFrame, mkF, argsToLocals, Value.category, maxLocals]; done) | rfl
def Qd0 (Z : State) (h0 : Heap) (n0 : Nat) (x0 : Int64) (x2 : Int32) (x3 : Int32) (x4 : Int32) : Option Value → Heap → List Loc → Prop := (fun v h L => v = (some (.int (1 : Int32))) ∧ Fr n0 L)
set_option maxRecDepth 65536 in
set_option maxHeartbeats 40000000 in
theorem rm0 (l : Launch) (Z : State) (a0 : Array Value) (hw : ∀ d ∈ tables_1, d.before a0 Z = true) (ws : List Jvm.Cond) (x0 : Int64) (x2 : Int32) (x3 : Int32) (x4 : Int32) (h0 : Heap) (n0 : Nat) (Z0 : n0 ≤ h0.size) :
    MetFree l x (head1 (Jvm.Cond.code x code maxLocals ret :: ws) room_1) (fun a U => a = #[(.long x0), (.int x2), (.int x3), (.int x4)] ∧ Z.Warmed39 U.vm ∧ U.heap = h0) (fun _ _ _ _ _ => True) (fun _ U o U' => ∃ v L, o = .returned v ∧ (Qd0 Z h0 n0 x0 x2 x3 x4) v U'.heap L ∧ FrameEnd U o U' L room_1.cells room_1.slots) := by
  refine MetFree.of_bodySF (plainFor_of_name pn_0) hisR ?_
  intro p e s m args below meth c s₁ Bd hml0 hP hK
  obtain ⟨rfl, hZ, hh⟩ := hP
  have e0 : s₁.heap = h0 := by rw [← hh, Bd.state]; rfl
  exact OG.cast (ef_0 m x0 x2 x3 x4) (b0_0 Bd.exec hZ hw Bd.bytes hml0 (findClass_of_methodNamed Bd.named) (name_of_methodNamed Bd.named Bd.method).1 Bd.returns Bd.notSynchronized x0 x2 x3 x4 (1 : Int32) (Stand.of_body Bd) e0 (Fr.nil n0) Z0 (law_true _ _ _ _))
set_option maxRecDepth 65536 in
set_option maxHeartbeats 40000000 in
theorem comes_1 {Post : Tables → Env → Array Value → State → Outcome → State → Prop} (hpost : ∀ tb e args s v u, (limb_1_1.after args s (.returned v) u = true ∧ limb_1_2.after args s (.returned v) u = true ∧ True) → FrameEnd s (.returned v) u (Jvm.fieldLocs frame_1_writes args s ++ Jvm.arrayLocs frame_1_arrays args s ++ Jvm.staticLocs frame_1_statics s) 16 128 → Post tb e args s (.returned v) u) :
    ArmFor flags0 classFile x code maxLocals ret World_1 tables_1 room_1 Calls_1 rest_1 Pre_1 Post := by
  intro l hfl _ _ p e ha hc hk s m args below hf hA hF happ hP
  obtain ⟨hcalls, hrest, hpre⟩ := hP
  obtain ⟨-, -, -, hnamed, -, -, -, hat⟩ := (Spec.applies_iff hf).mp happ
  obtain ⟨hg, hn⟩ := and_e (Cond.before_iff.mp (show (Jvm.Cond.and given_1 narrow_1).before args s = true from hpre))
  obtain ⟨g0, r0⟩ := and_e hg
  obtain ⟨g1, r1⟩ := and_e r0
  obtain ⟨g2, r2⟩ := and_e r1
  obtain ⟨g3, r3⟩ := and_e r2
  obtain ⟨w0, w1, w2, w3, rfl⟩ : ∃ w0 w1 w2 w3 : Value, args = #[w0, w1, w2, w3] := by
    have hs : args.size = 4 := by simpa [Cond.value, given_1] using g0
    obtain ⟨L⟩ := args
    match L, hs with
    | [w0, w1, w2, w3], _ => exact ⟨w0, w1, w2, w3, rfl⟩
  have hw := fun d (hd : d ∈ tables_1) => atoms_spec (ws := Jvm.Cond.code x code maxLocals ret :: tables_1) hat d (List.mem_cons_of_mem _ hd)
  obtain ⟨i0, ei0⟩ := isL_v g1
  obtain rfl : w0 = (.long i0) := Option.some.inj ei0
  obtain ⟨i1, ei1⟩ := is_v g2
  obtain rfl : w1 = (.int i1) := Option.some.inj ei1
  obtain ⟨i2, ei2⟩ := is_v g3
  obtain rfl : w2 = (.int i2) := Option.some.inj ei2
  obtain ⟨i3, ei3⟩ := is_v r3
  obtain rfl : w3 = (.int i3) := Option.some.inj ei3
  obtain ⟨n, o, h1, h2, h3, _, L, rfl, ⟨rfl, N⟩, hq⟩ := rm0 l s _ hw tables_1 i0 i1 i2 i3 s.heap s.heap.size (Nat.le_refl _) p e ha hc hk s m _ below hf ((Spec.applies_iff_loose hf).mp happ).1 ⟨rfl, State.Warmed39.refl s, rfl⟩ trivial
  exact ⟨n, _, h1, h2, h3, hpost _ _ _ _ _ _ ⟨Cond.after_iff.mpr rfl, Cond.after_iff.mpr (eq_i res_at (Term.int_eval (1)) rfl), trivial⟩ ⟨hq.1, hq.2.1, (hq.2.2.sift fun y hy => Or.inr (N y hy)).mono (by decide) (by decide)⟩⟩
theorem main_1_1 : Claimed_1_1 := comes_1 fun _ _ _ _ _ _ h hF => ⟨h.1, hF⟩
theorem main_1_2 : Claimed_1_2 := comes_1 fun _ _ _ _ _ _ h hF => ⟨h.2.1, hF⟩
end Jvm.Pilot.@@N@@
namespace Jvm.Pilot.@@N@@
open Jvm Jvm.ClassFile Sem Op Lib Jvm.Free Jvm.Stand Jvm.Pilot.@@N@@.Jvm.D
/-! MADE BY PROGRAM (witnessworld.py) out of the Statement's table words and the real class files: 9 classes; the members and pool entries that the words name. The judged class is class 1, her method 1. -/
namespace start1
open Jvm.ClassFile
def u (s : String) : CpInfo := .utf8 (stringToUtf16 s)
/-- a pool by its gaps: so many unusable entries, then the entry; so many at the end -/
def gap : Nat → List CpInfo → List CpInfo
  | 0, r => r
  | n + 1, r => .unusable :: gap n r
def poolList (es : List (Nat × CpInfo)) (last : Nat) : List CpInfo := es.foldr (fun e r => gap e.1 (e.2 :: r)) (gap last [])
def pool (es : List (Nat × CpInfo)) (last : Nat) : Array CpInfo := ⟨poolList es last⟩
def fileOf (pool : Array CpInfo) (this : Nat) (attrs : Array Attribute := #[]) (ms : Array MethodInfo := #[]) (fl : Nat := 33) (sup : Nat := 0) (ifs : Array Nat := #[]) (fds : Array FieldInfo := #[]) : ClassFile where
  minorVersion := 0
  majorVersion := 65
  constantPool := pool
  accessFlags := fl
  thisClass := this
  superClass := sup
  interfaces := ifs
  fields := fds
  methods := ms
  attributes := attrs
def plain (name : String) (sup : Option ClassId) : Class where
  name := name
  kind := .ordinary
  loader := none
  accessFlags := 33
  super := sup
  interfaces := #[]
  cf := none
  fields := #[]
  methods := #[]
  instanceTypes := #[]
  staticTypes := #[]
  resolved := #[]
  callSites := []
  init := .initialized
  statics := none
  mirror := none

def pool0 : Array CpInfo := pool [(5, u "<init>"), (0, u "()V"), (1, .class_ 10), (1, u "java/lang/Object")] 113

def k0m0 : Method := { name := "<init>", desc := "()V", sig := { parameters := [], returnType := none }, accessFlags := 1, code := none }
/-- java/lang/Object -/
def k0 : Class := { plain "java/lang/Object" none with
  accessFlags := 33
  interfaces := #[]
  cf := some (fileOf pool0 8 #[] #[{ accessFlags := 1, nameIndex := 5, descriptorIndex := 6, attributes := #[] }] 33 0 #[] #[])
  fields := #[]
  methods := #[k0m0]
  instanceTypes := #[]
  staticTypes := #[]
  resolved := Array.replicate 124 none
  statics := none }

def pool1 : Array CpInfo := pool [(2, .class_ 4), (1, u "java/lang/Object"), (0, u "<init>"), (0, u "()V"), (2, .long 9223372036854775807), (1, .integer 2147483647), (0, .methodref 13 14), (0, .class_ 15), (0, .nameAndType 16 17), (0, u "com/example/libtreegram/libtreegram/io/Leb128"), (0, u "put"), (0, u "(J[BI)I"), (0, .methodref 19 20), (0, .class_ 21), (0, .nameAndType 22 23), (0, u "com/example/libtreegram/libtreegram/io/Leb128PutPinLaw"), (0, u "length"), (0, u "(J)I"), (0, .methodref 19 25), (0, .nameAndType 26 27), (0, u "ok"), (0, u "([BIJIIB)Z"), (0, .long 128), (1, .long 16384), (1, .long 2097152), (1, .long 268435456), (1, .long 34359738368), (1, .long 4398046511104), (1, .long 562949953421312), (1, .long 72057594037927936), (1, .long 127), (3, u "law"), (0, u "(JIII)Z")] 5

def k1m0 : Method := { name := "<init>", desc := "()V", sig := { parameters := [], returnType := none }, accessFlags := 1, code := none }
def k1c1 : Code := { maxStack := 7, maxLocals := 12, code := code, exceptionTable := #[], attributes := #[] }
def k1m1 : Method := { name := "law", desc := "(JIII)Z", sig := { parameters := [.long, .int, .int, .int], returnType := some .boolean }, accessFlags := 9, code := some k1c1 }
def k1c2 : Code := { maxStack := 4, maxLocals := 2, code := method_3_code, exceptionTable := #[], attributes := #[] }
def k1m2 : Method := { name := "length", desc := "(J)I", sig := { parameters := [.long], returnType := some .int }, accessFlags := 10, code := some k1c2 }
def k1c3 : Code := { maxStack := 4, maxLocals := 10, code := method_4_code, exceptionTable := #[], attributes := #[] }
def k1m3 : Method := { name := "ok", desc := "([BIJIIB)Z", sig := { parameters := [(.array .byte), .int, .long, .int, .int, .byte], returnType := some .boolean }, accessFlags := 10, code := some k1c3 }
/-- com/example/libtreegram/libtreegram/io/Leb128PutPinLaw -/
def k1 : Class := { plain "com/example/libtreegram/libtreegram/io/Leb128PutPinLaw" (some 0) with
  accessFlags := 49
  interfaces := #[]
  cf := some (fileOf pool1 19 #[] #[{ accessFlags := 1, nameIndex := 5, descriptorIndex := 6, attributes := #[] }, { accessFlags := 9, nameIndex := 48, descriptorIndex := 49, attributes := #[] }, { accessFlags := 10, nameIndex := 22, descriptorIndex := 23, attributes := #[] }, { accessFlags := 10, nameIndex := 26, descriptorIndex := 27, attributes := #[] }] 49 2 #[] #[])
  fields := #[]
  methods := #[k1m0, k1m1, k1m2, k1m3]
  instanceTypes := #[]
  staticTypes := #[]
  resolved := Array.replicate 55 none
  statics := none }

def pool2 : Array CpInfo := pool [(4, .class_ 6), (1, u "java/lang/Object"), (0, u "<init>"), (0, u "()V"), (0, .class_ 10), (0, u "com/example/libtreegram/libtreegram/io/Leb128"), (0, .long 128), (1, .long 127), (17, u "LONGEST"), (0, u "I"), (2, u "UNENDED"), (1, u "TOO_LARGE"), (1, u "DIGIT_BITS"), (1, u "DIGIT"), (1, u "MORE"), (3, u "put"), (0, u "(J[BI)I")] 9

def k2m0 : Method := { name := "<init>", desc := "()V", sig := { parameters := [], returnType := none }, accessFlags := 2, code := none }
def k2c1 : Code := { maxStack := 6, maxLocals := 7, code := prog_53_method_2_code, exceptionTable := #[], attributes := #[] }
def k2m1 : Method := { name := "put", desc := "(J[BI)I", sig := { parameters := [.long, (.array .byte), .int], returnType := some .int }, accessFlags := 8, code := some k2c1 }
/-- com/example/libtreegram/libtreegram/io/Leb128 -/
def k2 : Class := { plain "com/example/libtreegram/libtreegram/io/Leb128" (some 0) with
  accessFlags := 32
  interfaces := #[]
  cf := some (fileOf pool2 9 #[] #[{ accessFlags := 2, nameIndex := 7, descriptorIndex := 8, attributes := #[] }, { accessFlags := 8, nameIndex := 47, descriptorIndex := 48, attributes := #[] }] 32 4 #[] #[{ accessFlags := 24, nameIndex := 31, descriptorIndex := 32, attributes := #[] }, { accessFlags := 24, nameIndex := 35, descriptorIndex := 32, attributes := #[] }, { accessFlags := 24, nameIndex := 37, descriptorIndex := 32, attributes := #[] }, { accessFlags := 26, nameIndex := 39, descriptorIndex := 32, attributes := #[] }, { accessFlags := 26, nameIndex := 41, descriptorIndex := 32, attributes := #[] }, { accessFlags := 26, nameIndex := 43, descriptorIndex := 32, attributes := #[] }])
  fields := #[{ name := "LONGEST", type := .int, accessFlags := 24, slot := 0, constantValue := 0 }, { name := "UNENDED", type := .int, accessFlags := 24, slot := 1, constantValue := 0 }, { name := "TOO_LARGE", type := .int, accessFlags := 24, slot := 2, constantValue := 0 }, { name := "DIGIT_BITS", type := .int, accessFlags := 26, slot := 3, constantValue := 0 }, { name := "DIGIT", type := .int, accessFlags := 26, slot := 4, constantValue := 0 }, { name := "MORE", type := .int, accessFlags := 26, slot := 5, constantValue := 0 }]
  methods := #[k2m0, k2m1]
  instanceTypes := #[]
  staticTypes := #[.int, .int, .int, .int, .int, .int]
  resolved := Array.replicate 58 none
  statics := none }

def pool3 : Array CpInfo := pool [(1, u "java/lang/Cloneable"), (0, .class_ 1), (0, u "java/lang/Object"), (0, .class_ 3)] 3

/-- java/lang/Cloneable -/
def k3 : Class := { plain "java/lang/Cloneable" (some 0) with
  accessFlags := 1537
  interfaces := #[]
  cf := some (fileOf pool3 2 #[] #[] 1537 4 #[] #[])
  fields := #[]
  methods := #[]
  instanceTypes := #[]
  staticTypes := #[]
  resolved := Array.replicate 8 none
  statics := none }

def pool4 : Array CpInfo := pool [(1, u "java/io/Serializable"), (0, .class_ 1), (0, u "java/lang/Object"), (0, .class_ 3)] 3

/-- java/io/Serializable -/
def k4 : Class := { plain "java/io/Serializable" (some 0) with
  accessFlags := 1537
  interfaces := #[]
  cf := some (fileOf pool4 2 #[] #[] 1537 4 #[] #[])
  fields := #[]
  methods := #[]
  instanceTypes := #[]
  staticTypes := #[]
  resolved := Array.replicate 8 none
  statics := none }

/-- the primitive byte -/
def k5 : Class := { plain "byte" none with kind := .primitive 'B', accessFlags := 0x411 }
/-- [B -/
def k6 : Class := { plain "[B" (some 0) with kind := .array 5 .byte, interfaces := #[3, 4], accessFlags := 1041 }

/-- the primitive int -/
def k7 : Class := { plain "int" none with kind := .primitive 'I', accessFlags := 0x411 }
/-- [I -/
def k8 : Class := { plain "[I" (some 0) with kind := .array 7 .int, interfaces := #[3, 4], accessFlags := 1041 }

def heap : Heap := #[]
def classes : Array Class := #[k0, k1, k2, k3, k4, k5, k6, k7, k8]
def interned : List (Array UInt16 × Addr) := []
def slotsUsed : Nat := 0
def theMethod : MethodId := ⟨1, 1⟩
def args0 : Array Value := #[.long 5, .int 7, .int 9, .int 11]
def aboutOver (below : List Frame) : State where
  vm := { classes := classes, interned := interned.toArray }
  heap := heap
  slotsUsed := slotsUsed
  threads := #[{ frames := .invoking theMethod args0 :: below }]
def below0 : List Frame := [.native { method := ⟨0, 0⟩, args := #[] }]
def about1 : State := aboutOver below0
def p0 : Program := .bare "" "" ""
def e0 : Env := launch0.env 0 0 0
theorem w_frames : about1.frames = Frame.invoking theMethod args0 :: below0 := rfl
set_option maxRecDepth 65536 in
theorem w_args : argsFit about1.vm theMethod args0 = true := by decide +kernel
set_option maxRecDepth 65536 in
theorem w_heap : heapFits about1 = true := by decide +kernel
set_option maxRecDepth 65536 in
theorem w_runnable : about1.curStatus? = some .runnable := by decide +kernel
set_option maxRecDepth 65536 in
theorem w_alone : about1.alone = true := by decide +kernel
set_option maxRecDepth 65536 in
theorem w_named : about1.methodNamed? x = some theMethod := by decide +kernel
set_option maxRecDepth 65536 in
theorem w_hears : about1.hears theMethod below0 = true := by decide +kernel
set_option maxRecDepth 65536 in
theorem w_ripe : about1.ripe theMethod args0 below0 = true := by decide +kernel
theorem w_running : about1.status = .running := rfl
set_option maxRecDepth 65536 in
theorem w_room : about1.hasRoom e0.platform room_1 = true :=
  launch0.hasRoom_least _ room_1 (by decide +kernel) (by decide +kernel) (by decide +kernel) (by decide +kernel) (by decide +kernel) (by decide +kernel)
theorem allAtoms_all (ts : List Jvm.Cond) (a : Array Jvm.Value) (st : Jvm.State) : (allAtoms ts).before a st = ts.all (fun c => c.before a st) := by
  induction ts with
  | nil => rfl
  | cons c t ih =>
    show (Jvm.Cond.and c (allAtoms t)).before a st = _
    rw [Jvm.Cond.before_and, ih, List.all_cons]
def words1 : List Jvm.Cond := Jvm.Cond.code x code maxLocals ret :: tables_1
/-- a 'code' word, met by the world's own term for the bytes: nothing is compared byte by byte -/
theorem code_word {y : MethodName} {bytes : ByteArray} {mx : Nat} {rt : Option FieldType} {a : Array Value} {s : State} {m : MethodId} {meth : Method} {c : Code} (h1 : s.methodNamed? y = some m) (h2 : s.vm.method? m = some meth) (h3 : meth.code = some c) (h4 : c.code = bytes)
    (h5 : (c.maxLocals == mx && c.exceptionTable.isEmpty && decide (c.maxStack ≤ mostOperands) && decide (meth.sig.returnType = rt) && !meth.locks && decide (parseMethodDescriptor y.desc = some meth.sig)) = true) : (Jvm.Cond.code y bytes mx rt).before a s = true := by
  simp only [Bool.and_eq_true, beq_iff_eq, Bool.not_eq_true', decide_eq_true_eq] at h5
  obtain ⟨⟨⟨⟨⟨g1, g2⟩, g3⟩, g4⟩, g5⟩, g6⟩ := h5
  simp [Cond.before, Cond.holds, Cond.value, h1, h2, h3, h4, g1, g2, g3, g4, g5, g6]
def isCode : Jvm.Cond → Bool
  | .code _ _ _ _ => true
  | _ => false
theorem all_split {L : List Jvm.Cond} {P : Jvm.Cond → Bool} (h1 : L.all (fun c => isCode c || P c) = true) (h2 : ∀ c ∈ L.filter isCode, P c = true) : L.all P = true := by
  refine List.all_eq_true.mpr fun c hc => ?_
  have h := List.all_eq_true.mp h1 c hc
  rcases Bool.eq_false_or_eq_true (isCode c) with hi | hi
  · exact h2 c (List.mem_filter.mpr ⟨hc, hi⟩)
  · simpa [hi] using h
set_option maxRecDepth 65536 in
theorem w_c0 : (Jvm.Cond.code x code maxLocals ret).before args0 about1 = true := code_word (m := ⟨1, 1⟩) (meth := k1m1) (c := k1c1) (by decide +kernel) rfl rfl rfl (by decide +kernel)
set_option maxRecDepth 65536 in
theorem w_c1 : (Jvm.Cond.code ({ cls := "com/example/libtreegram/libtreegram/io/Leb128", name := "put", desc := "(J[BI)I" } : Jvm.MethodName) prog_53_method_2_code (7 : Nat) (Option.some Jvm.ClassFile.FieldType.int)).before args0 about1 = true := code_word (m := ⟨2, 1⟩) (meth := k2m1) (c := k2c1) (by decide +kernel) rfl rfl rfl (by decide +kernel)
set_option maxRecDepth 65536 in
theorem w_c2 : (Jvm.Cond.code ({ cls := "com/example/libtreegram/libtreegram/io/Leb128PutPinLaw", name := "length", desc := "(J)I" } : Jvm.MethodName) method_3_code (2 : Nat) (Option.some Jvm.ClassFile.FieldType.int)).before args0 about1 = true := code_word (m := ⟨1, 2⟩) (meth := k1m2) (c := k1c2) (by decide +kernel) rfl rfl rfl (by decide +kernel)
set_option maxRecDepth 65536 in
theorem w_c3 : (Jvm.Cond.code ({ cls := "com/example/libtreegram/libtreegram/io/Leb128PutPinLaw", name := "ok", desc := "([BIJIIB)Z" } : Jvm.MethodName) method_4_code (10 : Nat) (Option.some Jvm.ClassFile.FieldType.boolean)).before args0 about1 = true := code_word (m := ⟨1, 3⟩) (meth := k1m3) (c := k1c3) (by decide +kernel) rfl rfl rfl (by decide +kernel)
def codes1 : List Jvm.Cond := [Jvm.Cond.code x code maxLocals ret, Jvm.Cond.code ({ cls := "com/example/libtreegram/libtreegram/io/Leb128", name := "put", desc := "(J[BI)I" } : Jvm.MethodName) prog_53_method_2_code (7 : Nat) (Option.some Jvm.ClassFile.FieldType.int), Jvm.Cond.code ({ cls := "com/example/libtreegram/libtreegram/io/Leb128PutPinLaw", name := "length", desc := "(J)I" } : Jvm.MethodName) method_3_code (2 : Nat) (Option.some Jvm.ClassFile.FieldType.int), Jvm.Cond.code ({ cls := "com/example/libtreegram/libtreegram/io/Leb128PutPinLaw", name := "ok", desc := "([BIJIIB)Z" } : Jvm.MethodName) method_4_code (10 : Nat) (Option.some Jvm.ClassFile.FieldType.boolean)]
set_option maxRecDepth 65536 in
theorem codes_eq : words1.filter isCode = codes1 := rfl
theorem w_codes : ∀ c ∈ words1.filter isCode, c.before args0 about1 = true := by
  rw [codes_eq]
  intro c hc
  simp only [codes1, List.mem_cons, List.not_mem_nil, or_false] at hc
  rcases hc with rfl | rfl | rfl | rfl
  · exact w_c0
  · exact w_c1
  · exact w_c2
  · exact w_c3
set_option maxRecDepth 65536 in
theorem w_t1 : (words1.take 24).all (fun c => isCode c || c.before args0 about1) = true := by decide +kernel
set_option maxRecDepth 65536 in
theorem w_t2 : (words1.drop 24).all (fun c => isCode c || c.before args0 about1) = true := by decide +kernel
theorem w_tables : (allAtoms (Jvm.Cond.code x code maxLocals ret :: tables_1)).before args0 about1 = true := by
  rw [allAtoms_all]
  show words1.all (fun c => c.before args0 about1) = true
  refine all_split ?_ w_codes
  rw [← List.take_append_drop 24 words1, List.all_append, w_t1, w_t2]
  rfl
set_option maxRecDepth 65536 in
theorem w_case : (Jvm.Cond.and given_1 narrow_1).before args0 about1 = true := by decide +kernel
theorem w_applies : (headSpec (Jvm.Cond.code x code maxLocals ret :: tables_1) room_1).applies x e0.platform about1 = true :=
  (Spec.applies_iff w_frames).mpr ⟨w_running, w_runnable, w_alone, w_named, w_hears, w_ripe, w_room, w_tables⟩
theorem atStart : AtStart classFile x code maxLocals ret World_1 tables_1 room_1 Calls_1 rest_1 Pre_1 launch0 p0 e0 about1 theMethod args0 below0 :=
  ⟨lists_1, trivial, launch0.admits_env _ _ _, launch0.least_env, fairChoices_fair.cas, fairChoices_fair.clock, w_frames, w_args, w_heap, w_applies, trivial, trivial, w_case⟩
end start1
theorem witness_1 : WitnessClaimed_1 := ⟨start1.p0, start1.e0, start1.about1, start1.theMethod, start1.args0, start1.below0, start1.atStart⟩
end Jvm.Pilot.@@N@@
