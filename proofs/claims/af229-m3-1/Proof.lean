import JvmDerived
import JvmDerived.Pilot.@@N@@Statement
import JvmDerived.Pilot.@@N@@Code
set_option linter.unusedVariables false
set_option linter.unusedSimpArgs false
namespace Jvm.RoadKit
open Sem ClassFile Op Lib Jvm.Stand Jvm.Free Jvm.LawKit
section New
variable {p : Program} {l : Launch} {e : Env} {R : Room} {s : State} {m : MethodId} {args : Array Value} {below : List Frame} {meth : Method} {c : Code} {T : State} {locs : List Loc} {cells slots : Nat}
theorem retI (X : Stand p l e R s m args below meth c T locs cells slots) (hx : p.tables.exec = Jvm.exec) {pc : Nat} {Ls : Array Slot} {z : Int32} {rest : List Value} (hret : meth.sig.returnType = some .int) (hd : decode c.code pc = .ok (.ireturn, 1)) {fs : List Frame}
    (hl : ∀ (f : JFrame) (acts : List Action), f.method = m → f.locked = none → f.entered = [] → (doReturn e (T.setTop f) acts (some (.int z))).1 = T.setFrames fs) : Steps p.tables e below (T.setTop (mkF m pc Ls (.int z :: rest))) (T.setFrames fs) := by
  have hm' : T.vm.method? m = some meth := X.method'
  have hn : narrow .int (.int z) = .int z := rfl
  show Steps p.tables e below (T.setTop { method := m, pc := pc, locals := Ls, stack := _ :: rest, locked := none }) _
  jvm_step X.here [X.here.top, hx, hd, hm', hret, hn]
  first | (intro acts; rw [hl _ acts rfl rfl rfl]) | rw [hl _ _ rfl rfl rfl]
  exact Steps.refl _
theorem retJ (X : Stand p l e R s m args below meth c T locs cells slots) (hx : p.tables.exec = Jvm.exec) {pc : Nat} {Ls : Array Slot} {z : Int64} {rest : List Value} (hret : meth.sig.returnType = some .long) (hd : decode c.code pc = .ok (.lreturn, 1)) {fs : List Frame}
    (hl : ∀ (f : JFrame) (acts : List Action), f.method = m → f.locked = none → f.entered = [] → (doReturn e (T.setTop f) acts (some (.long z))).1 = T.setFrames fs) : Steps p.tables e below (T.setTop (mkF m pc Ls (.long z :: rest))) (T.setFrames fs) := by
  have hm' : T.vm.method? m = some meth := X.method'
  have hn : narrow .long (.long z) = .long z := rfl
  show Steps p.tables e below (T.setTop { method := m, pc := pc, locals := Ls, stack := _ :: rest, locked := none }) _
  jvm_step X.here [X.here.top, hx, hd, hm', hret, hn]
  first | (intro acts; rw [hl _ acts rfl rfl rfl]) | rw [hl _ _ rfl rfl rfl]
  exact Steps.refl _
end New
end Jvm.RoadKit
namespace Jvm.Pilot.@@N@@
open Jvm Jvm.ClassFile Sem Op Lib Jvm.Free Jvm.Stand Jvm.LawKit Jvm.RoadKit Bundle Jvm.Pilot.@@N@@.Jvm.D
section Own
variable {p : Program} {l : Launch} {e : Env} {R : Room} {s : State} {m : MethodId} {args : Array Value} {below : List Frame} {meth : Method} {c : Code} {T : State} {locs : List Loc} {cells slots : Nat} {Q : Option Value → Heap → List Loc → Prop} {kc ks : Nat}
/-- from this frame the walk goes to its end, with Q -/
def OG (p : Program) (e : Env) (below : List Frame) (s : State) (Q : Option Value → Heap → List Loc → Prop) (kc ks : Nat) (T : State) (g : JFrame) : Prop :=
  ∃ s₂ o, Steps p.tables e below (T.setTop g) s₂ ∧ s₂.status = .running ∧ Ended s₂ below o ∧ ∃ v L, o = .returned v ∧ Q v s₂.heap L ∧ FrameEnd s o s₂ L kc ks
theorem OG.step {T' : State} {g g' : JFrame} (st : ∀ t, Steps p.tables e below (T'.setTop g') t → Steps p.tables e below (T.setTop g) t) (h : OG p e below s Q kc ks T' g') : OG p e below s Q kc ks T g := by
  obtain ⟨s₂, o, h1, h2⟩ := h
  exact ⟨s₂, o, st _ h1, h2⟩
theorem OG.cast {g g' : JFrame} (q : g = g') (h : OG p e below s Q kc ks T g') : OG p e below s Q kc ks T g := q ▸ h
theorem OG.mono {Q' : Option Value → Heap → List Loc → Prop} {g : JFrame} (hq : ∀ v h L, Q v h L → Q' v h L) (h : OG p e below s Q kc ks T g) : OG p e below s Q' kc ks T g := by
  obtain ⟨s₂, o, h1, h2, h3, v, L, h4, h5, h6⟩ := h
  exact ⟨s₂, o, h1, h2, h3, v, L, h4, hq _ _ _ h5, h6⟩
theorem o_iadd (X : Stand p l e R s m args below meth c T locs cells slots) (hx : p.tables.exec = Jvm.exec) {pc pc' : Nat} {Ls : Array Slot} {x y : Int32} {rest : List Value} (hd : decode c.code pc = .ok (.iadd, 1)) (hp : pc + 1 = pc') (h : OG p e below s Q kc ks T (mkF m pc' Ls (.int (x + y) :: rest))) : OG p e below s Q kc ks T (mkF m pc Ls (.int y :: .int x :: rest)) := by
  subst hp; exact OG.step (fun t q => XS.iadd X.here hx rfl hd rfl q) h
theorem o_isub (X : Stand p l e R s m args below meth c T locs cells slots) (hx : p.tables.exec = Jvm.exec) {pc pc' : Nat} {Ls : Array Slot} {x y : Int32} {rest : List Value} (hd : decode c.code pc = .ok (.isub, 1)) (hp : pc + 1 = pc') (h : OG p e below s Q kc ks T (mkF m pc' Ls (.int (x - y) :: rest))) : OG p e below s Q kc ks T (mkF m pc Ls (.int y :: .int x :: rest)) := by
  subst hp; exact OG.step (fun t q => XS.isub X.here hx rfl hd rfl q) h
theorem o_imul (X : Stand p l e R s m args below meth c T locs cells slots) (hx : p.tables.exec = Jvm.exec) {pc pc' : Nat} {Ls : Array Slot} {x y : Int32} {rest : List Value} (hd : decode c.code pc = .ok (.imul, 1)) (hp : pc + 1 = pc') (h : OG p e below s Q kc ks T (mkF m pc' Ls (.int (x * y) :: rest))) : OG p e below s Q kc ks T (mkF m pc Ls (.int y :: .int x :: rest)) := by
  subst hp; exact OG.step (fun t q => XS.imul X.here hx rfl hd rfl q) h
theorem o_iand (X : Stand p l e R s m args below meth c T locs cells slots) (hx : p.tables.exec = Jvm.exec) {pc pc' : Nat} {Ls : Array Slot} {x y : Int32} {rest : List Value} (hd : decode c.code pc = .ok (.iand, 1)) (hp : pc + 1 = pc') (h : OG p e below s Q kc ks T (mkF m pc' Ls (.int (x &&& y) :: rest))) : OG p e below s Q kc ks T (mkF m pc Ls (.int y :: .int x :: rest)) := by
  subst hp; exact OG.step (fun t q => XS.iand X.here hx rfl hd rfl q) h
theorem o_ior (X : Stand p l e R s m args below meth c T locs cells slots) (hx : p.tables.exec = Jvm.exec) {pc pc' : Nat} {Ls : Array Slot} {x y : Int32} {rest : List Value} (hd : decode c.code pc = .ok (.ior, 1)) (hp : pc + 1 = pc') (h : OG p e below s Q kc ks T (mkF m pc' Ls (.int (x ||| y) :: rest))) : OG p e below s Q kc ks T (mkF m pc Ls (.int y :: .int x :: rest)) := by
  subst hp; exact OG.step (fun t q => XS.ior X.here hx rfl hd rfl q) h
theorem o_ixor (X : Stand p l e R s m args below meth c T locs cells slots) (hx : p.tables.exec = Jvm.exec) {pc pc' : Nat} {Ls : Array Slot} {x y : Int32} {rest : List Value} (hd : decode c.code pc = .ok (.ixor, 1)) (hp : pc + 1 = pc') (h : OG p e below s Q kc ks T (mkF m pc' Ls (.int (x ^^^ y) :: rest))) : OG p e below s Q kc ks T (mkF m pc Ls (.int y :: .int x :: rest)) := by
  subst hp; exact OG.step (fun t q => XS.ixor X.here hx rfl hd rfl q) h
theorem o_ladd (X : Stand p l e R s m args below meth c T locs cells slots) (hx : p.tables.exec = Jvm.exec) {pc pc' : Nat} {Ls : Array Slot} {x y : Int64} {rest : List Value} (hd : decode c.code pc = .ok (.ladd, 1)) (hp : pc + 1 = pc') (h : OG p e below s Q kc ks T (mkF m pc' Ls (.long (x + y) :: rest))) : OG p e below s Q kc ks T (mkF m pc Ls (.long y :: .long x :: rest)) := by
  subst hp; exact OG.step (fun t q => XS.ladd X.here hx rfl hd rfl q) h
theorem o_lsub (X : Stand p l e R s m args below meth c T locs cells slots) (hx : p.tables.exec = Jvm.exec) {pc pc' : Nat} {Ls : Array Slot} {x y : Int64} {rest : List Value} (hd : decode c.code pc = .ok (.lsub, 1)) (hp : pc + 1 = pc') (h : OG p e below s Q kc ks T (mkF m pc' Ls (.long (x - y) :: rest))) : OG p e below s Q kc ks T (mkF m pc Ls (.long y :: .long x :: rest)) := by
  subst hp; exact OG.step (fun t q => XS.lsub X.here hx rfl hd rfl q) h
theorem o_lmul (X : Stand p l e R s m args below meth c T locs cells slots) (hx : p.tables.exec = Jvm.exec) {pc pc' : Nat} {Ls : Array Slot} {x y : Int64} {rest : List Value} (hd : decode c.code pc = .ok (.lmul, 1)) (hp : pc + 1 = pc') (h : OG p e below s Q kc ks T (mkF m pc' Ls (.long (x * y) :: rest))) : OG p e below s Q kc ks T (mkF m pc Ls (.long y :: .long x :: rest)) := by
  subst hp; exact OG.step (fun t q => XS.lmul X.here hx rfl hd rfl q) h
theorem o_land (X : Stand p l e R s m args below meth c T locs cells slots) (hx : p.tables.exec = Jvm.exec) {pc pc' : Nat} {Ls : Array Slot} {x y : Int64} {rest : List Value} (hd : decode c.code pc = .ok (.land, 1)) (hp : pc + 1 = pc') (h : OG p e below s Q kc ks T (mkF m pc' Ls (.long (x &&& y) :: rest))) : OG p e below s Q kc ks T (mkF m pc Ls (.long y :: .long x :: rest)) := by
  subst hp; exact OG.step (fun t q => XS.land X.here hx rfl hd rfl q) h
theorem o_lor (X : Stand p l e R s m args below meth c T locs cells slots) (hx : p.tables.exec = Jvm.exec) {pc pc' : Nat} {Ls : Array Slot} {x y : Int64} {rest : List Value} (hd : decode c.code pc = .ok (.lor, 1)) (hp : pc + 1 = pc') (h : OG p e below s Q kc ks T (mkF m pc' Ls (.long (x ||| y) :: rest))) : OG p e below s Q kc ks T (mkF m pc Ls (.long y :: .long x :: rest)) := by
  subst hp; exact OG.step (fun t q => XS.lor X.here hx rfl hd rfl q) h
theorem o_lxor (X : Stand p l e R s m args below meth c T locs cells slots) (hx : p.tables.exec = Jvm.exec) {pc pc' : Nat} {Ls : Array Slot} {x y : Int64} {rest : List Value} (hd : decode c.code pc = .ok (.lxor, 1)) (hp : pc + 1 = pc') (h : OG p e below s Q kc ks T (mkF m pc' Ls (.long (x ^^^ y) :: rest))) : OG p e below s Q kc ks T (mkF m pc Ls (.long y :: .long x :: rest)) := by
  subst hp; exact OG.step (fun t q => XS.lxor X.here hx rfl hd rfl q) h
theorem o_ishl (X : Stand p l e R s m args below meth c T locs cells slots) (hx : p.tables.exec = Jvm.exec) {pc pc' : Nat} {Ls : Array Slot} {x y : Int32} {rest : List Value} (hd : decode c.code pc = .ok (.ishl, 1)) (hp : pc + 1 = pc') (h : OG p e below s Q kc ks T (mkF m pc' Ls (.int (x <<< (y &&& 31)) :: rest))) : OG p e below s Q kc ks T (mkF m pc Ls (.int y :: .int x :: rest)) := by
  subst hp; exact OG.step (fun t q => XS.ishl X.here hx rfl hd rfl q) h
theorem o_ishr (X : Stand p l e R s m args below meth c T locs cells slots) (hx : p.tables.exec = Jvm.exec) {pc pc' : Nat} {Ls : Array Slot} {x y : Int32} {rest : List Value} (hd : decode c.code pc = .ok (.ishr, 1)) (hp : pc + 1 = pc') (h : OG p e below s Q kc ks T (mkF m pc' Ls (.int (x >>> (y &&& 31)) :: rest))) : OG p e below s Q kc ks T (mkF m pc Ls (.int y :: .int x :: rest)) := by
  subst hp; exact OG.step (fun t q => XS.ishr X.here hx rfl hd rfl q) h
theorem o_iushr (X : Stand p l e R s m args below meth c T locs cells slots) (hx : p.tables.exec = Jvm.exec) {pc pc' : Nat} {Ls : Array Slot} {x y : Int32} {rest : List Value} (hd : decode c.code pc = .ok (.iushr, 1)) (hp : pc + 1 = pc') (h : OG p e below s Q kc ks T (mkF m pc' Ls (.int ((x.toUInt32 >>> (y &&& 31).toUInt32).toInt32) :: rest))) : OG p e below s Q kc ks T (mkF m pc Ls (.int y :: .int x :: rest)) := by
  subst hp; exact OG.step (fun t q => XS.iushr X.here hx rfl hd rfl q) h
theorem o_lshl (X : Stand p l e R s m args below meth c T locs cells slots) (hx : p.tables.exec = Jvm.exec) {pc pc' : Nat} {Ls : Array Slot} {x : Int64} {y : Int32} {rest : List Value} (hd : decode c.code pc = .ok (.lshl, 1)) (hp : pc + 1 = pc') (h : OG p e below s Q kc ks T (mkF m pc' Ls (.long (x <<< (y &&& 0x3f).toInt64) :: rest))) : OG p e below s Q kc ks T (mkF m pc Ls (.int y :: .long x :: rest)) := by
  subst hp; exact OG.step (fun t q => XS.lshl X.here hx rfl hd rfl q) h
theorem o_lshr (X : Stand p l e R s m args below meth c T locs cells slots) (hx : p.tables.exec = Jvm.exec) {pc pc' : Nat} {Ls : Array Slot} {x : Int64} {y : Int32} {rest : List Value} (hd : decode c.code pc = .ok (.lshr, 1)) (hp : pc + 1 = pc') (h : OG p e below s Q kc ks T (mkF m pc' Ls (.long (x >>> (y &&& 0x3f).toInt64) :: rest))) : OG p e below s Q kc ks T (mkF m pc Ls (.int y :: .long x :: rest)) := by
  subst hp; exact OG.step (fun t q => XS.lshr X.here hx rfl hd rfl q) h
theorem o_lushr (X : Stand p l e R s m args below meth c T locs cells slots) (hx : p.tables.exec = Jvm.exec) {pc pc' : Nat} {Ls : Array Slot} {x : Int64} {y : Int32} {rest : List Value} (hd : decode c.code pc = .ok (.lushr, 1)) (hp : pc + 1 = pc') (h : OG p e below s Q kc ks T (mkF m pc' Ls (.long ((x.toUInt64 >>> (y &&& 0x3f).toInt64.toUInt64).toInt64) :: rest))) : OG p e below s Q kc ks T (mkF m pc Ls (.int y :: .long x :: rest)) := by
  subst hp; exact OG.step (fun t q => XS.lushr X.here hx rfl hd rfl q) h
theorem o_idiv (X : Stand p l e R s m args below meth c T locs cells slots) (hx : p.tables.exec = Jvm.exec) {pc pc' : Nat} {Ls : Array Slot} {x y : Int32} {rest : List Value} (hd : decode c.code pc = .ok (.idiv, 1)) (hy : y ≠ 0) (hp : pc + 1 = pc') (h : OG p e below s Q kc ks T (mkF m pc' Ls (.int (x / y) :: rest))) : OG p e below s Q kc ks T (mkF m pc Ls (.int y :: .int x :: rest)) := by
  subst hp; exact OG.step (fun t q => XS.idiv X.here hx rfl hd rfl hy q) h
theorem o_ldiv (X : Stand p l e R s m args below meth c T locs cells slots) (hx : p.tables.exec = Jvm.exec) {pc pc' : Nat} {Ls : Array Slot} {x y : Int64} {rest : List Value} (hd : decode c.code pc = .ok (.ldiv, 1)) (hy : y ≠ 0) (hp : pc + 1 = pc') (h : OG p e below s Q kc ks T (mkF m pc' Ls (.long (x / y) :: rest))) : OG p e below s Q kc ks T (mkF m pc Ls (.long y :: .long x :: rest)) := by
  subst hp; exact OG.step (fun t q => XS.ldiv X.here hx rfl hd rfl hy q) h
theorem o_irem (X : Stand p l e R s m args below meth c T locs cells slots) (hx : p.tables.exec = Jvm.exec) {pc pc' : Nat} {Ls : Array Slot} {x y : Int32} {rest : List Value} (hd : decode c.code pc = .ok (.irem, 1)) (hy : y ≠ 0) (hp : pc + 1 = pc') (h : OG p e below s Q kc ks T (mkF m pc' Ls (.int (x % y) :: rest))) : OG p e below s Q kc ks T (mkF m pc Ls (.int y :: .int x :: rest)) := by
  subst hp; exact OG.step (fun t q => iremM X hx rfl hd rfl hy q) h
theorem o_lrem (X : Stand p l e R s m args below meth c T locs cells slots) (hx : p.tables.exec = Jvm.exec) {pc pc' : Nat} {Ls : Array Slot} {x y : Int64} {rest : List Value} (hd : decode c.code pc = .ok (.lrem, 1)) (hy : y ≠ 0) (hp : pc + 1 = pc') (h : OG p e below s Q kc ks T (mkF m pc' Ls (.long (x % y) :: rest))) : OG p e below s Q kc ks T (mkF m pc Ls (.long y :: .long x :: rest)) := by
  subst hp; rw [← lrem_mod] at h; exact OG.step (fun t q => XS.lrem X.here hx rfl hd rfl hy q) h
theorem o_ineg (X : Stand p l e R s m args below meth c T locs cells slots) (hx : p.tables.exec = Jvm.exec) {pc pc' : Nat} {Ls : Array Slot} {x : Int32} {rest : List Value} (hd : decode c.code pc = .ok (.ineg, 1)) (hp : pc + 1 = pc') (h : OG p e below s Q kc ks T (mkF m pc' Ls (.int ((-x)) :: rest))) : OG p e below s Q kc ks T (mkF m pc Ls (.int x :: rest)) := by
  subst hp; exact OG.step (fun t q => XS.ineg X.here hx rfl hd rfl q) h
theorem o_lneg (X : Stand p l e R s m args below meth c T locs cells slots) (hx : p.tables.exec = Jvm.exec) {pc pc' : Nat} {Ls : Array Slot} {x : Int64} {rest : List Value} (hd : decode c.code pc = .ok (.lneg, 1)) (hp : pc + 1 = pc') (h : OG p e below s Q kc ks T (mkF m pc' Ls (.long ((-x)) :: rest))) : OG p e below s Q kc ks T (mkF m pc Ls (.long x :: rest)) := by
  subst hp; exact OG.step (fun t q => XS.lneg X.here hx rfl hd rfl q) h
theorem o_i2l (X : Stand p l e R s m args below meth c T locs cells slots) (hx : p.tables.exec = Jvm.exec) {pc pc' : Nat} {Ls : Array Slot} {x : Int32} {rest : List Value} (hd : decode c.code pc = .ok (.i2l, 1)) (hp : pc + 1 = pc') (h : OG p e below s Q kc ks T (mkF m pc' Ls (.long (x.toInt64) :: rest))) : OG p e below s Q kc ks T (mkF m pc Ls (.int x :: rest)) := by
  subst hp; exact OG.step (fun t q => XS.i2l X.here hx rfl hd rfl q) h
theorem o_l2i (X : Stand p l e R s m args below meth c T locs cells slots) (hx : p.tables.exec = Jvm.exec) {pc pc' : Nat} {Ls : Array Slot} {x : Int64} {rest : List Value} (hd : decode c.code pc = .ok (.l2i, 1)) (hp : pc + 1 = pc') (h : OG p e below s Q kc ks T (mkF m pc' Ls (.int (x.toInt32) :: rest))) : OG p e below s Q kc ks T (mkF m pc Ls (.long x :: rest)) := by
  subst hp; exact OG.step (fun t q => XS.l2i X.here hx rfl hd rfl q) h
theorem o_i2b (X : Stand p l e R s m args below meth c T locs cells slots) (hx : p.tables.exec = Jvm.exec) {pc pc' : Nat} {Ls : Array Slot} {x : Int32} {rest : List Value} (hd : decode c.code pc = .ok (.i2b, 1)) (hp : pc + 1 = pc') (h : OG p e below s Q kc ks T (mkF m pc' Ls (.int (x.toInt8.toInt32) :: rest))) : OG p e below s Q kc ks T (mkF m pc Ls (.int x :: rest)) := by
  subst hp; exact OG.step (fun t q => XS.i2b X.here hx rfl hd rfl q) h
theorem o_i2c (X : Stand p l e R s m args below meth c T locs cells slots) (hx : p.tables.exec = Jvm.exec) {pc pc' : Nat} {Ls : Array Slot} {x : Int32} {rest : List Value} (hd : decode c.code pc = .ok (.i2c, 1)) (hp : pc + 1 = pc') (h : OG p e below s Q kc ks T (mkF m pc' Ls (.int (x.toUInt32.toUInt16.toUInt32.toInt32) :: rest))) : OG p e below s Q kc ks T (mkF m pc Ls (.int x :: rest)) := by
  subst hp; exact OG.step (fun t q => XS.i2c X.here hx rfl hd rfl q) h
theorem o_i2s (X : Stand p l e R s m args below meth c T locs cells slots) (hx : p.tables.exec = Jvm.exec) {pc pc' : Nat} {Ls : Array Slot} {x : Int32} {rest : List Value} (hd : decode c.code pc = .ok (.i2s, 1)) (hp : pc + 1 = pc') (h : OG p e below s Q kc ks T (mkF m pc' Ls (.int (x.toInt16.toInt32) :: rest))) : OG p e below s Q kc ks T (mkF m pc Ls (.int x :: rest)) := by
  subst hp; exact OG.step (fun t q => XS.i2s X.here hx rfl hd rfl q) h
theorem o_lcmp (X : Stand p l e R s m args below meth c T locs cells slots) (hx : p.tables.exec = Jvm.exec) {pc pc' : Nat} {Ls : Array Slot} {x y : Int64} {rest : List Value} (hd : decode c.code pc = .ok (.lcmp, 1)) (hp : pc + 1 = pc') (h : OG p e below s Q kc ks T (mkF m pc' Ls (.int (lcmpW x y) :: rest))) : OG p e below s Q kc ks T (mkF m pc Ls (.long y :: .long x :: rest)) := by
  subst hp; exact OG.step (fun t q => XS.lcmp X.here hx rfl hd rfl q) h
theorem o_iconst (X : Stand p l e R s m args below meth c T locs cells slots) (hx : p.tables.exec = Jvm.exec) {pc pc' : Nat} {Ls : Array Slot} {i : Int} {rest : List Value} (hd : decode c.code pc = .ok (.iconst i, 1)) (w : Int32) (hv : Int32.ofInt i = w) (hp : pc + 1 = pc') (h : OG p e below s Q kc ks T (mkF m pc' Ls (.int w :: rest))) : OG p e below s Q kc ks T (mkF m pc Ls (rest)) := by
  subst hp hv; exact OG.step (fun t q => XS.iconst X.here hx rfl hd q) h
theorem o_bipush (X : Stand p l e R s m args below meth c T locs cells slots) (hx : p.tables.exec = Jvm.exec) {pc pc' : Nat} {Ls : Array Slot} {i : Int} {rest : List Value} (hd : decode c.code pc = .ok (.bipush i, 2)) (w : Int32) (hv : (Int8.ofInt i).toInt32 = w) (hp : pc + 2 = pc') (h : OG p e below s Q kc ks T (mkF m pc' Ls (.int w :: rest))) : OG p e below s Q kc ks T (mkF m pc Ls (rest)) := by
  subst hp hv; exact OG.step (fun t q => XS.bipush X.here hx rfl hd q) h
theorem o_sipush (X : Stand p l e R s m args below meth c T locs cells slots) (hx : p.tables.exec = Jvm.exec) {pc pc' : Nat} {Ls : Array Slot} {i : Int} {rest : List Value} (hd : decode c.code pc = .ok (.sipush i, 3)) (w : Int32) (hv : (Int16.ofInt i).toInt32 = w) (hp : pc + 3 = pc') (h : OG p e below s Q kc ks T (mkF m pc' Ls (.int w :: rest))) : OG p e below s Q kc ks T (mkF m pc Ls (rest)) := by
  subst hp hv; exact OG.step (fun t q => XS.sipush X.here hx rfl hd q) h
theorem o_lconst (X : Stand p l e R s m args below meth c T locs cells slots) (hx : p.tables.exec = Jvm.exec) {pc pc' : Nat} {Ls : Array Slot} {i : Fin 2} {rest : List Value} (hd : decode c.code pc = .ok (.lconst i, 1)) (w : Int64) (hv : Int64.ofNat i = w) (hp : pc + 1 = pc') (h : OG p e below s Q kc ks T (mkF m pc' Ls (.long w :: rest))) : OG p e below s Q kc ks T (mkF m pc Ls (rest)) := by
  subst hp hv; exact OG.step (fun t q => XS.lconst X.here hx rfl hd q) h
theorem o_aconst_null (X : Stand p l e R s m args below meth c T locs cells slots) (hx : p.tables.exec = Jvm.exec) {pc pc' : Nat} {Ls : Array Slot} {rest : List Value} (hd : decode c.code pc = .ok (.aconst_null, 1)) (hp : pc + 1 = pc') (h : OG p e below s Q kc ks T (mkF m pc' Ls (.null :: rest))) : OG p e below s Q kc ks T (mkF m pc Ls (rest)) := by
  subst hp; exact OG.step (fun t q => XS.aconstNull X.here hx rfl hd q) h
theorem o_iload_n (X : Stand p l e R s m args below meth c T locs cells slots) (hx : p.tables.exec = Jvm.exec) {pc pc' : Nat} {Ls : Array Slot} {i : Fin 4} {x : Int32} {rest : List Value} (hd : decode c.code pc = .ok (.iload_n i, 1)) (hl : Ls[i.val]? = some (.val (.int x))) (hp : pc + 1 = pc') (h : OG p e below s Q kc ks T (mkF m pc' Ls (.int x :: rest))) : OG p e below s Q kc ks T (mkF m pc Ls (rest)) := by
  subst hp; exact OG.step (fun t q => XS.iloadN X.here hx rfl hd hl q) h
theorem o_iload (X : Stand p l e R s m args below meth c T locs cells slots) (hx : p.tables.exec = Jvm.exec) {pc pc' : Nat} {Ls : Array Slot} {i : Nat} {x : Int32} {rest : List Value} (hd : decode c.code pc = .ok (.iload i, 2)) (hl : Ls[i]? = some (.val (.int x))) (hp : pc + 2 = pc') (h : OG p e below s Q kc ks T (mkF m pc' Ls (.int x :: rest))) : OG p e below s Q kc ks T (mkF m pc Ls (rest)) := by
  subst hp; exact OG.step (fun t q => XS.iload X.here hx rfl hd hl q) h
theorem o_lload_n (X : Stand p l e R s m args below meth c T locs cells slots) (hx : p.tables.exec = Jvm.exec) {pc pc' : Nat} {Ls : Array Slot} {i : Fin 4} {x : Int64} {rest : List Value} (hd : decode c.code pc = .ok (.lload_n i, 1)) (hl : Ls[i.val]? = some (.val (.long x))) (hp : pc + 1 = pc') (h : OG p e below s Q kc ks T (mkF m pc' Ls (.long x :: rest))) : OG p e below s Q kc ks T (mkF m pc Ls (rest)) := by
  subst hp; exact OG.step (fun t q => XS.lloadN X.here hx rfl hd hl q) h
theorem o_lload (X : Stand p l e R s m args below meth c T locs cells slots) (hx : p.tables.exec = Jvm.exec) {pc pc' : Nat} {Ls : Array Slot} {i : Nat} {x : Int64} {rest : List Value} (hd : decode c.code pc = .ok (.lload i, 2)) (hl : Ls[i]? = some (.val (.long x))) (hp : pc + 2 = pc') (h : OG p e below s Q kc ks T (mkF m pc' Ls (.long x :: rest))) : OG p e below s Q kc ks T (mkF m pc Ls (rest)) := by
  subst hp; exact OG.step (fun t q => XS.lload X.here hx rfl hd hl q) h
theorem o_aload_n (X : Stand p l e R s m args below meth c T locs cells slots) (hx : p.tables.exec = Jvm.exec) {pc pc' : Nat} {Ls : Array Slot} {i : Fin 4} {x : Value} {rest : List Value} (hd : decode c.code pc = .ok (.aload_n i, 1)) (hl : Ls[i.val]? = some (.val x)) (hv : x.isRef = true) (hp : pc + 1 = pc') (h : OG p e below s Q kc ks T (mkF m pc' Ls (x :: rest))) : OG p e below s Q kc ks T (mkF m pc Ls (rest)) := by
  subst hp; exact OG.step (fun t q => XS.aloadN X.here hx rfl hd hl hv q) h
theorem o_aload (X : Stand p l e R s m args below meth c T locs cells slots) (hx : p.tables.exec = Jvm.exec) {pc pc' : Nat} {Ls : Array Slot} {i : Nat} {x : Value} {rest : List Value} (hd : decode c.code pc = .ok (.aload i, 2)) (hl : Ls[i]? = some (.val x)) (hv : x.isRef = true) (hp : pc + 2 = pc') (h : OG p e below s Q kc ks T (mkF m pc' Ls (x :: rest))) : OG p e below s Q kc ks T (mkF m pc Ls (rest)) := by
  subst hp; exact OG.step (fun t q => XS.aload X.here hx rfl hd hl hv q) h
theorem o_istore_n (X : Stand p l e R s m args below meth c T locs cells slots) (hx : p.tables.exec = Jvm.exec) {pc pc' : Nat} {Ls : Array Slot} {i : Fin 4} {x : Int32} {rest : List Value} (hd : decode c.code pc = .ok (.istore_n i, 1)) (l' : Array Slot) (hl : storeLocals Ls i.val (.int x) = some l') (hp : pc + 1 = pc') (h : OG p e below s Q kc ks T (mkF m pc' l' (rest))) : OG p e below s Q kc ks T (mkF m pc Ls (.int x :: rest)) := by
  subst hp; exact OG.step (fun t q => XS.istoreN X.here hx rfl hd rfl hl q) h
theorem o_istore (X : Stand p l e R s m args below meth c T locs cells slots) (hx : p.tables.exec = Jvm.exec) {pc pc' : Nat} {Ls : Array Slot} {i : Nat} {x : Int32} {rest : List Value} (hd : decode c.code pc = .ok (.istore i, 2)) (l' : Array Slot) (hl : storeLocals Ls i (.int x) = some l') (hp : pc + 2 = pc') (h : OG p e below s Q kc ks T (mkF m pc' l' (rest))) : OG p e below s Q kc ks T (mkF m pc Ls (.int x :: rest)) := by
  subst hp; exact OG.step (fun t q => XS.istore X.here hx rfl hd rfl hl q) h
theorem o_lstore_n (X : Stand p l e R s m args below meth c T locs cells slots) (hx : p.tables.exec = Jvm.exec) {pc pc' : Nat} {Ls : Array Slot} {i : Fin 4} {x : Int64} {rest : List Value} (hd : decode c.code pc = .ok (.lstore_n i, 1)) (l' : Array Slot) (hl : storeLocals Ls i.val (.long x) = some l') (hp : pc + 1 = pc') (h : OG p e below s Q kc ks T (mkF m pc' l' (rest))) : OG p e below s Q kc ks T (mkF m pc Ls (.long x :: rest)) := by
  subst hp; exact OG.step (fun t q => XS.lstoreN X.here hx rfl hd rfl hl q) h
theorem o_lstore (X : Stand p l e R s m args below meth c T locs cells slots) (hx : p.tables.exec = Jvm.exec) {pc pc' : Nat} {Ls : Array Slot} {i : Nat} {x : Int64} {rest : List Value} (hd : decode c.code pc = .ok (.lstore i, 2)) (l' : Array Slot) (hl : storeLocals Ls i (.long x) = some l') (hp : pc + 2 = pc') (h : OG p e below s Q kc ks T (mkF m pc' l' (rest))) : OG p e below s Q kc ks T (mkF m pc Ls (.long x :: rest)) := by
  subst hp; exact OG.step (fun t q => XS.lstore X.here hx rfl hd rfl hl q) h
theorem o_astore_n (X : Stand p l e R s m args below meth c T locs cells slots) (hx : p.tables.exec = Jvm.exec) {pc pc' : Nat} {Ls : Array Slot} {i : Fin 4} {x : Value} {rest : List Value} (hd : decode c.code pc = .ok (.astore_n i, 1)) (hv : x.isRef = true) (l' : Array Slot) (hl : storeLocals Ls i.val x = some l') (hp : pc + 1 = pc') (h : OG p e below s Q kc ks T (mkF m pc' l' (rest))) : OG p e below s Q kc ks T (mkF m pc Ls (x :: rest)) := by
  subst hp; exact OG.step (fun t q => XS.astoreN X.here hx rfl hd rfl hv hl q) h
theorem o_astore (X : Stand p l e R s m args below meth c T locs cells slots) (hx : p.tables.exec = Jvm.exec) {pc pc' : Nat} {Ls : Array Slot} {i : Nat} {x : Value} {rest : List Value} (hd : decode c.code pc = .ok (.astore i, 2)) (hv : x.isRef = true) (l' : Array Slot) (hl : storeLocals Ls i x = some l') (hp : pc + 2 = pc') (h : OG p e below s Q kc ks T (mkF m pc' l' (rest))) : OG p e below s Q kc ks T (mkF m pc Ls (x :: rest)) := by
  subst hp; exact OG.step (fun t q => XS.astore X.here hx rfl hd rfl hv hl q) h
theorem o_iinc (X : Stand p l e R s m args below meth c T locs cells slots) (hx : p.tables.exec = Jvm.exec) {pc pc' : Nat} {Ls : Array Slot} {i : Nat} {k : Int} {x : Int32} {rest : List Value} (hd : decode c.code pc = .ok (.iinc i k, 3)) (w : Int32) (hw' : Int32.ofInt k = w) (hl : Ls[i]? = some (.val (.int x))) (l' : Array Slot) (hl' : storeLocals Ls i (.int (x + w)) = some l') (hp : pc + 3 = pc') (h : OG p e below s Q kc ks T (mkF m pc' l' (rest))) : OG p e below s Q kc ks T (mkF m pc Ls (rest)) := by
  subst hp hw'; exact OG.step (fun t q => XS.iinc X.here hx rfl hd hl hl' q) h
theorem o_dup (X : Stand p l e R s m args below meth c T locs cells slots) (hx : p.tables.exec = Jvm.exec) {pc pc' : Nat} {Ls : Array Slot} {x : Value} {rest : List Value} (hd : decode c.code pc = .ok (.dup, 1)) (hc : x.category = 1) (hp : pc + 1 = pc') (h : OG p e below s Q kc ks T (mkF m pc' Ls (x :: x :: rest))) : OG p e below s Q kc ks T (mkF m pc Ls (x :: rest)) := by
  subst hp; exact OG.step (fun t q => XS.dup X.here hx rfl hd rfl hc q) h
theorem o_pop (X : Stand p l e R s m args below meth c T locs cells slots) (hx : p.tables.exec = Jvm.exec) {pc pc' : Nat} {Ls : Array Slot} {x : Value} {rest : List Value} (hd : decode c.code pc = .ok (.pop, 1)) (hc : x.category = 1) (hp : pc + 1 = pc') (h : OG p e below s Q kc ks T (mkF m pc' Ls (rest))) : OG p e below s Q kc ks T (mkF m pc Ls (x :: rest)) := by
  subst hp; exact OG.step (fun t q => XS.pop X.here hx rfl hd rfl hc q) h
theorem o_dup_x1 (X : Stand p l e R s m args below meth c T locs cells slots) (hx : p.tables.exec = Jvm.exec) {pc pc' : Nat} {Ls : Array Slot} {x y : Value} {rest : List Value} (hd : decode c.code pc = .ok (.dup_x1, 1)) (hc : x.category = 1) (hc2 : y.category = 1) (hp : pc + 1 = pc') (h : OG p e below s Q kc ks T (mkF m pc' Ls (x :: y :: x :: rest))) : OG p e below s Q kc ks T (mkF m pc Ls (x :: y :: rest)) := by
  subst hp; exact OG.step (fun t q => XS.dupX1 X.here hx rfl hd rfl hc hc2 q) h
theorem o_goto (X : Stand p l e R s m args below meth c T locs cells slots) (hx : p.tables.exec = Jvm.exec) {pc pc' : Nat} {Ls : Array Slot} {rest : List Value} {o : Int} (hd : decode c.code pc = .ok (.goto o, 3)) (ho : 0 ≤ (pc : Int) + o) (hp : ((pc : Int) + o).toNat = pc') (h : OG p e below s Q kc ks T (mkF m pc' Ls rest)) : OG p e below s Q kc ks T (mkF m pc Ls rest) :=
  OG.step (fun t q => XS.goto X.here hx rfl rfl hd ho hp q) h
theorem o_ifYes (X : Stand p l e R s m args below meth c T locs cells slots) (hx : p.tables.exec = Jvm.exec) {pc pc' : Nat} {Ls : Array Slot} {rest : List Value} {o : Int} {cd : ClassFile.Cond} {x : Int32} (hd : decode c.code pc = .ok (.ifCond cd o, 3)) (hc : ifCond.holds cd x = true) (ho : 0 ≤ (pc : Int) + o) (hp : ((pc : Int) + o).toNat = pc') (h : OG p e below s Q kc ks T (mkF m pc' Ls rest)) : OG p e below s Q kc ks T (mkF m pc Ls (.int x :: rest)) :=
  OG.step (fun t q => XS.ifYes X.here hx rfl rfl hd rfl hc ho hp q) h
theorem o_ifNo (X : Stand p l e R s m args below meth c T locs cells slots) (hx : p.tables.exec = Jvm.exec) {pc pc' : Nat} {Ls : Array Slot} {rest : List Value} {o : Int} {cd : ClassFile.Cond} {x : Int32} (hd : decode c.code pc = .ok (.ifCond cd o, 3)) (hc : ifCond.holds cd x = false) (hp : pc + 3 = pc') (h : OG p e below s Q kc ks T (mkF m pc' Ls rest)) : OG p e below s Q kc ks T (mkF m pc Ls (.int x :: rest)) := by
  subst hp; exact OG.step (fun t q => XS.ifNo X.here hx rfl hd rfl hc q) h
theorem o_icmpYes (X : Stand p l e R s m args below meth c T locs cells slots) (hx : p.tables.exec = Jvm.exec) {pc pc' : Nat} {Ls : Array Slot} {rest : List Value} {o : Int} {cd : ClassFile.Cond} {x y : Int32} (hd : decode c.code pc = .ok (.if_icmp cd o, 3)) (hc : if_icmp.holds cd x y = true) (ho : 0 ≤ (pc : Int) + o) (hp : ((pc : Int) + o).toNat = pc') (h : OG p e below s Q kc ks T (mkF m pc' Ls rest)) : OG p e below s Q kc ks T (mkF m pc Ls (.int y :: .int x :: rest)) :=
  OG.step (fun t q => XS.icmpYes X.here hx rfl rfl hd rfl hc ho hp q) h
theorem o_icmpNo (X : Stand p l e R s m args below meth c T locs cells slots) (hx : p.tables.exec = Jvm.exec) {pc pc' : Nat} {Ls : Array Slot} {rest : List Value} {o : Int} {cd : ClassFile.Cond} {x y : Int32} (hd : decode c.code pc = .ok (.if_icmp cd o, 3)) (hc : if_icmp.holds cd x y = false) (hp : pc + 3 = pc') (h : OG p e below s Q kc ks T (mkF m pc' Ls rest)) : OG p e below s Q kc ks T (mkF m pc Ls (.int y :: .int x :: rest)) := by
  subst hp; exact OG.step (fun t q => XS.icmpNo X.here hx rfl hd rfl hc q) h
theorem o_ifnonnullYes (X : Stand p l e R s m args below meth c T locs cells slots) (hx : p.tables.exec = Jvm.exec) {pc pc' : Nat} {Ls : Array Slot} {rest : List Value} {o : Int} {b : Addr} (hd : decode c.code pc = .ok (.ifnonnull o, 3)) (ho : 0 ≤ (pc : Int) + o) (hp : ((pc : Int) + o).toNat = pc') (h : OG p e below s Q kc ks T (mkF m pc' Ls rest)) : OG p e below s Q kc ks T (mkF m pc Ls (.ref b :: rest)) :=
  OG.step (fun t q => XS.ifnonnullYes X.here hx rfl rfl hd rfl ho hp q) h
theorem o_ifnonnullNo (X : Stand p l e R s m args below meth c T locs cells slots) (hx : p.tables.exec = Jvm.exec) {pc pc' : Nat} {Ls : Array Slot} {rest : List Value} {o : Int} (hd : decode c.code pc = .ok (.ifnonnull o, 3)) (hp : pc + 3 = pc') (h : OG p e below s Q kc ks T (mkF m pc' Ls rest)) : OG p e below s Q kc ks T (mkF m pc Ls (.null :: rest)) := by
  subst hp; exact OG.step (fun t q => XS.ifnonnullNo X.here hx rfl hd rfl q) h
theorem o_ldcInt (X : Stand p l e R s m args below meth c T locs cells slots) (hx : p.tables.exec = Jvm.exec) {pc pc' : Nat} {Ls : Array Slot} {rest : List Value} {Z : State} {a0 : Array Value} {own : String} {i : Nat} {v : Int32} (hZ : Z.Warmed39 s.vm) (hown : s.vm.findClass own = some m.cls) (hd : decode c.code pc = .ok (.ldc i, 2)) (hk : (Cond.constant own i v).before a0 Z = true) (hp : pc + 2 = pc') (h : OG p e below s Q kc ks T (mkF m pc' Ls (.int v :: rest))) : OG p e below s Q kc ks T (mkF m pc Ls rest) := by
  subst hp; exact OG.step (fun t q => X.ldcInt hx hown (mvT hZ hk) (g := mkF m pc Ls rest) rfl hd t q) h
theorem o_ldc2Long (X : Stand p l e R s m args below meth c T locs cells slots) (hx : p.tables.exec = Jvm.exec) {pc pc' : Nat} {Ls : Array Slot} {rest : List Value} {Z : State} {a0 : Array Value} {own : String} {i : Nat} {v : Int64} (hZ : Z.Warmed39 s.vm) (hown : s.vm.findClass own = some m.cls) (hd : decode c.code pc = .ok (.ldc2_w i, 3)) (hk : (Cond.constantLong own i v).before a0 Z = true) (hp : pc + 3 = pc') (h : OG p e below s Q kc ks T (mkF m pc' Ls (.long v :: rest))) : OG p e below s Q kc ks T (mkF m pc Ls rest) := by
  subst hp; exact OG.step (fun t q => X.ldc2Long hx hown (mvT hZ hk) (g := mkF m pc Ls rest) rfl hd t q) h
theorem o_retI (X : Stand p l e R s m args below meth c T locs cells slots) (hx : p.tables.exec = Jvm.exec) (hlk : meth.locks = false) {pc : Nat} {Ls : Array Slot} {rest : List Value} {z : Int32} (hret : meth.sig.returnType = some .int) (hd : decode c.code pc = .ok (.ireturn, 1)) (hQ : Q (some (.int z)) T.heap locs) (h1 : cells ≤ kc) (h2 : slots ≤ ks) : OG p e below s Q kc ks T (mkF m pc Ls (.int z :: rest)) := by
  obtain ⟨fs, hr, hrun, hended, hW, hsame⟩ := X.leave (v := some (.int z)) (fun h => by rw [hret] at h; cases h) hlk
  exact ⟨_, _, retI X hx hret hd hr, hrun, hended, _, _, rfl, hQ, ⟨_, rfl⟩, hW, hsame.mono h1 h2⟩
theorem o_retJ (X : Stand p l e R s m args below meth c T locs cells slots) (hx : p.tables.exec = Jvm.exec) (hlk : meth.locks = false) {pc : Nat} {Ls : Array Slot} {rest : List Value} {z : Int64} (hret : meth.sig.returnType = some .long) (hd : decode c.code pc = .ok (.lreturn, 1)) (hQ : Q (some (.long z)) T.heap locs) (h1 : cells ≤ kc) (h2 : slots ≤ ks) : OG p e below s Q kc ks T (mkF m pc Ls (.long z :: rest)) := by
  obtain ⟨fs, hr, hrun, hended, hW, hsame⟩ := X.leave (v := some (.long z)) (fun h => by rw [hret] at h; cases h) hlk
  exact ⟨_, _, retJ X hx hret hd hr, hrun, hended, _, _, rfl, hQ, ⟨_, rfl⟩, hW, hsame.mono h1 h2⟩
theorem o_retN (X : Stand p l e R s m args below meth c T locs cells slots) (hx : p.tables.exec = Jvm.exec) (hlk : meth.locks = false) {pc : Nat} {Ls : Array Slot} {rest : List Value} {z w : Int32} {t : FieldType} (ht : t = .boolean ∨ t = .byte ∨ t = .char ∨ t = .short) (hret : meth.sig.returnType = some t) (hd : decode c.code pc = .ok (.ireturn, 1)) (hz : nar t z = w) (hQ : Q (some (.int w)) T.heap locs) (h1 : cells ≤ kc) (h2 : slots ≤ ks) : OG p e below s Q kc ks T (mkF m pc Ls (.int z :: rest)) := by
  subst hz
  obtain ⟨fs, hr, hrun, hended, hW, hsame⟩ := X.leave (v := some (.int (nar t z))) (fun h => by rw [hret] at h; cases h) hlk
  exact ⟨_, _, retN X hx hret ht hd hr, hrun, hended, _, _, rfl, hQ, ⟨_, rfl⟩, hW, hsame.mono h1 h2⟩
theorem o_ret (X : Stand p l e R s m args below meth c T locs cells slots) (hx : p.tables.exec = Jvm.exec) (hlk : meth.locks = false) {pc : Nat} {Ls : Array Slot} (hret : meth.sig.returnType = none) (hd : decode c.code pc = .ok (.return_, 1)) (hQ : Q none T.heap locs) (h1 : cells ≤ kc) (h2 : slots ≤ ks) : OG p e below s Q kc ks T (mkF m pc Ls []) := by
  obtain ⟨fs, hr, hrun, hended, hW, hsame⟩ := X.leave (v := none) (fun _ => rfl) hlk
  exact ⟨_, _, X.returnOut hx hret hd hr, hrun, hended, _, _, rfl, hQ, ⟨_, rfl⟩, hW, hsame.mono h1 h2⟩
variable {Z : State} {a0 : Array Value} {h : Heap}
theorem o_callS (X : Stand p l e R s m args below meth c T locs cells slots) (hx : p.tables.exec = Jvm.exec) (hZ : Z.Warmed39 s.vm) {own : String} {index : Nat} {y : MethodName} {bytes : ByteArray} {maxL : Nat} {ret : Option FieldType} {rm : Room} {Qc : Option Value → Heap → List Loc → Prop} {argsL rest st : List Value} {pc pc' : Nat} {Ls : Array Slot} (W : Nat)
    (hown : s.vm.findClass own = some m.cls) (eT : T.heap = h) (hlink : (Cond.methodLink own index y).before a0 Z = true) (hstat : (Cond.static y).before a0 Z = true) (hinit : (Cond.initialized y.cls).before a0 Z = true) (hcode : (Cond.code y bytes maxL ret).before a0 Z = true) (hy : y.cls ≠ "java/lang/invoke/MethodHandle" ∧ y.cls ≠ "java/lang/invoke/VarHandle")
    (hM : MetFree l y (head1 [Cond.code y bytes maxL ret] rm) (fun a U => a = argsL.toArray ∧ Z.Warmed39 U.vm ∧ U.heap = h) (fun _ _ _ _ _ => True) (fun _ U o U' => ∃ v L, o = .returned v ∧ Qc v U'.heap L ∧ FrameEnd U o U' L rm.cells rm.slots)) (hf : rm.frames + 1 ≤ R.frames) (hl : W + (maxL + 11) + rm.locals ≤ R.locals)
    (hsize : Ls.size = c.maxLocals) (hlen : ∀ sig, parseMethodDescriptor y.desc = some sig → argsL.length = sig.parameters.length) (hs : st = argsL.reverse ++ rest) (hW : (rest.map fun v => v.category).sum ≤ W) (hd : decode c.code pc = .ok (.invokestatic index, 3)) (hp : pc + 3 = pc') (hc : cells + rm.cells ≤ R.cells) (hsl : slots + rm.slots ≤ R.slots)
    (k : ∀ v T' L, Stand p l e R s m args below meth c T' (locs ++ L) (cells + rm.cells) (slots + rm.slots) → Qc v T'.heap L → OG p e below s Q kc ks T' (mkF m pc' Ls (v.toList ++ rest))) : OG p e below s Q kc ks T (mkF m pc Ls st) := by
  subst hp hs
  obtain ⟨v, vm₁, ⟨T1, L1, c1, n1⟩, -, X1, ⟨Lc, hQ, l1, y1, z1⟩, st⟩ := Jvm.LawKit.callS X hx (y := y) hown (mvT hZ hlink) (mvT hZ hstat) (mvT hZ hinit) (mvT hZ hcode) hy (backOf (W := W) hM hZ hcode hinit hf hl) (g := mkF m pc Ls (argsL.reverse ++ rest)) rfl hsize (argsL := argsL) (rest := rest) hlen rfl (by show 2 * 0 + _ ≤ _; omega) hd (fun _ _ => ⟨rfl, eT, hc, hsl⟩)
  dsimp only [Pt.U, Pt.locs, Pt.cells, Pt.slots] at X1 l1 y1 z1 st hQ
  subst l1 y1 z1
  exact OG.step st (k v T1 Lc X1 hQ)
theorem o_special (X : Stand p l e R s m args below meth c T locs cells slots) (hx : p.tables.exec = Jvm.exec) (hZ : Z.Warmed39 s.vm) {own : String} {index : Nat} {y : MethodName} {bytes : ByteArray} {maxL : Nat} {rm : Room} {Qc : Option Value → Heap → List Loc → Prop} {a : Addr} {argsL rest st : List Value} {pc pc' : Nat} {Ls : Array Slot} (W : Nat) (hy1 : y.name = "<init>")
    (hown : s.vm.findClass own = some m.cls) (eT : T.heap = h) (hlink : (Cond.methodLink own index y).before a0 Z = true) (hinst : (Cond.instanceMethod y).before a0 Z = true) (hinit : (Cond.initialized y.cls).before a0 Z = true) (hcode : (Cond.code y bytes maxL none).before a0 Z = true) (hy : y.cls ≠ "java/lang/invoke/MethodHandle" ∧ y.cls ≠ "java/lang/invoke/VarHandle")
    (hM : MetFree l y (head1 [Cond.code y bytes maxL none] rm) (fun b U => b = (.ref a :: argsL).toArray ∧ Z.Warmed39 U.vm ∧ U.heap = h) (fun _ _ _ _ _ => True) (fun _ U o U' => ∃ v L, o = .returned v ∧ Qc v U'.heap L ∧ FrameEnd U o U' L rm.cells rm.slots)) (hf : rm.frames + 1 ≤ R.frames) (hl : W + (maxL + 11) + rm.locals ≤ R.locals)
    (hsize : Ls.size = c.maxLocals) (hlen : ∀ sig, parseMethodDescriptor y.desc = some sig → argsL.length = sig.parameters.length) (hs : st = argsL.reverse ++ .ref a :: rest) (hW : (rest.map fun v => v.category).sum ≤ W) (hd : decode c.code pc = .ok (.invokespecial index, 3)) (hp : pc + 3 = pc') (hc : cells + rm.cells ≤ R.cells) (hsl : slots + rm.slots ≤ R.slots)
    (k : ∀ v T' L, Stand p l e R s m args below meth c T' (locs ++ L) (cells + rm.cells) (slots + rm.slots) → Qc v T'.heap L → OG p e below s Q kc ks T' (mkF m pc' Ls (v.toList ++ rest))) : OG p e below s Q kc ks T (mkF m pc Ls st) := by
  subst hp hs
  obtain ⟨v, vm₁, ⟨T1, L1, c1, n1⟩, -, X1, ⟨Lc, hQ, l1, y1, z1⟩, st⟩ := X.specialBack hx (y := y) hy1 hown (mvT hZ hlink) (mvT hZ hinst) (mvT hZ hcode) hy (backOf (W := W) hM hZ hcode hinit hf hl) (g := mkF m pc Ls (argsL.reverse ++ .ref a :: rest)) rfl hsize (Steps.refl _) (a := a) (argsL := argsL) (rest := rest) hlen rfl (by show 2 * 0 + _ ≤ _; omega) hd (fun _ _ => ⟨rfl, eT, hc, hsl⟩)
  dsimp only [Pt.U, Pt.locs, Pt.cells, Pt.slots] at X1 l1 y1 z1 st hQ
  subst l1 y1 z1
  exact OG.step (fun t q => st.trans q) (k v T1 Lc X1 hQ)
theorem o_virtual (X : Stand p l e R s m args below meth c T locs cells slots) (hx : p.tables.exec = Jvm.exec) (hZ : Z.Warmed39 s.vm) {own C : String} {index : Nat} {y : MethodName} {bytes : ByteArray} {maxL : Nat} {ret : Option FieldType} {rm : Room} {Qc : Option Value → Heap → List Loc → Prop} {a : Addr} {argsL rest st : List Value} {pc pc' : Nat} {Ls : Array Slot} (W : Nat)
    (hown : s.vm.findClass own = some m.cls) (eT : T.heap = h) (hlink : (Cond.methodLink own index y).before a0 Z = true) (hdecl : (Cond.declares y).before a0 Z = true) (hsel : (Cond.selects C y y).before a0 Z = true) (hinst : (Cond.instanceMethod y).before a0 Z = true) (hinit : (Cond.initialized y.cls).before a0 Z = true) (hcode : (Cond.code y bytes maxL ret).before a0 Z = true) (hy : y.cls ≠ "java/lang/invoke/MethodHandle" ∧ y.cls ≠ "java/lang/invoke/VarHandle")
    (E : Exa Z h a C)
    (hM : MetFree l y (head1 [Cond.code y bytes maxL ret] rm) (fun b U => b = (.ref a :: argsL).toArray ∧ Z.Warmed39 U.vm ∧ U.heap = h) (fun _ _ _ _ _ => True) (fun _ U o U' => ∃ v L, o = .returned v ∧ Qc v U'.heap L ∧ FrameEnd U o U' L rm.cells rm.slots)) (hf : rm.frames + 1 ≤ R.frames) (hl : W + (maxL + 11) + rm.locals ≤ R.locals)
    (hsize : Ls.size = c.maxLocals) (hlen : ∀ sig, parseMethodDescriptor y.desc = some sig → argsL.length = sig.parameters.length) (hs : st = argsL.reverse ++ .ref a :: rest) (hW : (rest.map fun v => v.category).sum ≤ W) (hd : decode c.code pc = .ok (.invokevirtual index, 3)) (hp : pc + 3 = pc') (hc : cells + rm.cells ≤ R.cells) (hsl : slots + rm.slots ≤ R.slots)
    (k : ∀ v T' L, Stand p l e R s m args below meth c T' (locs ++ L) (cells + rm.cells) (slots + rm.slots) → Qc v T'.heap L → OG p e below s Q kc ks T' (mkF m pc' Ls (v.toList ++ rest))) : OG p e below s Q kc ks T (mkF m pc Ls st) := by
  subst hp hs
  obtain ⟨cq, kq, qa, qb, qc⟩ := isOf hZ eT E
  obtain ⟨v, vm₁, ⟨T1, L1, c1, n1⟩, -, X1, ⟨Lc, hQ, l1, y1, z1⟩, st⟩ := X.virtualBack hx (y := y) (z := y) hown (mvT hZ hlink) (mvT hZ hdecl) (notFace_of_selects (args := #[]) (mvT hZ hsel)) (mvT hZ hsel) (mvT hZ hinst) hy (backOf (W := W) hM hZ hcode hinit hf hl) qa qc (g := mkF m pc Ls (argsL.reverse ++ .ref a :: rest)) rfl hsize (Steps.refl _) (argsL := argsL) (rest := rest) hlen rfl (by show 2 * 0 + _ ≤ _; omega) hd (fun _ _ => ⟨rfl, eT, hc, hsl⟩)
  dsimp only [Pt.U, Pt.locs, Pt.cells, Pt.slots] at X1 l1 y1 z1 st hQ
  subst l1 y1 z1
  exact OG.step (fun t q => st.trans q) (k v T1 Lc X1 hQ)
theorem o_new (X : Stand p l e R s m args below meth c T locs cells slots) (hx : p.tables.exec = Jvm.exec) (hZ : Z.Warmed39 s.vm) {own C : String} {index n : Nat} {pc pc' : Nat} {Ls : Array Slot} {rest : List Value} (hown : s.vm.findClass own = some m.cls) (eT : T.heap = h) (w : (Cond.classLink own index C).before a0 Z = true) (wi : (Cond.instantiable C n).before a0 Z = true) (wz : (Cond.initialized C).before a0 Z = true) (hd : decode c.code pc = .ok (.new index, 3)) (hp : pc + 3 = pc') (hc : cells + 1 ≤ R.cells) (hl : slots + n ≤ R.slots)
    (k : ∀ T' h' a, Stand p l e R s m args below meth c T' locs (cells + 1) (slots + n) → T'.heap = h' → a = h.size → Ext h h' → Exa Z h' a C → (∀ {O nm d : String} {ty : FieldType}, Laid Z a0 C O nm d → parseFieldDescriptor d = some ty → Fld Z h' a O nm d (defaultValue ty)) → OG p e below s Q kc ks T' (mkF m pc' Ls (.ref a :: rest))) : OG p e below s Q kc ks T (mkF m pc Ls rest) := by
  subst hp
  obtain ⟨T2, h2, X2, e2, E2, A2, D2, -, st2⟩ := newO X hx hZ hown w wi wz eT (g := mkF m pc Ls rest) rfl hd hc hl
  exact OG.step st2 (k T2 h2 _ X2 e2 rfl E2 A2 D2)
theorem o_getF (X : Stand p l e R s m args below meth c T locs cells slots) (hx : p.tables.exec = Jvm.exec) (hZ : Z.Warmed39 s.vm) {own R0 O n d : String} {index : Nat} {a : Addr} {v : Value} {pc pc' : Nat} {Ls : Array Slot} {rest : List Value} (hown : s.vm.findClass own = some m.cls) (eT : T.heap = h) (w : (Cond.fieldLink own index R0 n d).before a0 Z = true) (via : Via Z R0 O n d) (F : Fld Z h a O n d v) (hd : decode c.code pc = .ok (.getfield index, 3)) (hp : pc + 3 = pc')
    (k : ∀ T', Stand p l e R s m args below meth c T' locs cells slots → T'.heap = h → OG p e below s Q kc ks T' (mkF m pc' Ls (v :: rest))) : OG p e below s Q kc ks T (mkF m pc Ls (.ref a :: rest)) := by
  subst hp
  obtain ⟨T1, X1, e1, st1⟩ := getF X hx hZ hown (host := "") (Or.inl w) via eT F (g := mkF m pc Ls (.ref a :: rest)) rfl rfl hd
  exact OG.step st1 (k T1 X1 e1)
theorem o_putF (X : Stand p l e R s m args below meth c T locs cells slots) (hx : p.tables.exec = Jvm.exec) (hZ : Z.Warmed39 s.vm) {own R0 O n d C : String} {index kk : Nat} {ty : FieldType} {a : Addr} {v old : Value} {pc pc' : Nat} {Ls : Array Slot} {rest : List Value} (hown : s.vm.findClass own = some m.cls) (eT : T.heap = h) (w : (Cond.fieldLink own index R0 n d).before a0 Z = true) (via : Via Z R0 O n d) (F : Fld Z h a O n d old) (E : Exa Z h a C)
    (L : (Cond.lays C O n d).before a0 Z = true ∨ ((Cond.laysFinal C O n d).before a0 Z = true ∧ own = O ∧ meth.name = "<init>")) (wi : (Cond.instantiable C kk).before a0 Z = true) (hty : parseFieldDescriptor d = some ty) (hn : narrow ty v = v) (hf : fits ty v = true) (hd : decode c.code pc = .ok (.putfield index, 3)) (hp : pc + 3 = pc')
    (k : ∀ T' h', Stand p l e R s m args below meth c T' (locs ++ [⟨a, RoadKit.slotOf Z O n d⟩]) cells slots → T'.heap = h' → Wr h h' a (RoadKit.slotOf Z O n d) v → OG p e below s Q kc ks T' (mkF m pc' Ls rest)) : OG p e below s Q kc ks T (mkF m pc Ls (v :: .ref a :: rest)) := by
  subst hp
  obtain ⟨T1, h1, X1, e1, W1, st1⟩ := putF X hx hZ hown (host := "") (Or.inl w) via eT F E L wi hty hn hf (g := mkF m pc Ls (v :: .ref a :: rest)) rfl rfl hd
  exact OG.step st1 (k T1 h1 X1 e1 W1)
theorem z_tlt {x : Int32} (h : x < 0) : ifCond.holds .lt x = true ∧ ifCond.holds .ge x = false := ⟨(if0 _ _).trans (tlt h).1, (if0 _ _).trans (tlt h).2.1⟩
theorem z_flt {x : Int32} (h : ¬ x < 0) : ifCond.holds .lt x = false ∧ ifCond.holds .ge x = true := ⟨(if0 _ _).trans (flt h).1, (if0 _ _).trans (flt h).2.1⟩
theorem z_tgt {x : Int32} (h : 0 < x) : ifCond.holds .gt x = true ∧ ifCond.holds .le x = false := ⟨(if0 _ _).trans (tlt h).2.2.1, (if0 _ _).trans (tlt h).2.2.2⟩
theorem z_fgt {x : Int32} (h : ¬ 0 < x) : ifCond.holds .gt x = false ∧ ifCond.holds .le x = true := ⟨(if0 _ _).trans (flt h).2.2.1, (if0 _ _).trans (flt h).2.2.2⟩
theorem z_teq {x : Int32} (h : x = 0) : ifCond.holds .eq x = true ∧ ifCond.holds .ne x = false := ⟨(if0 _ _).trans (teq h).1, (if0 _ _).trans (teq h).2⟩
theorem z_feq {x : Int32} (h : ¬ x = 0) : ifCond.holds .eq x = false ∧ ifCond.holds .ne x = true := ⟨(if0 _ _).trans (feq h).1, (if0 _ _).trans (feq h).2⟩
theorem c_tlt {x y : Int32} (h : x < y) : if_icmp.holds .lt x y = true ∧ if_icmp.holds .ge x y = false := ⟨(tlt h).1, (tlt h).2.1⟩
theorem c_flt {x y : Int32} (h : ¬ x < y) : if_icmp.holds .lt x y = false ∧ if_icmp.holds .ge x y = true := ⟨(flt h).1, (flt h).2.1⟩
theorem c_tgt {x y : Int32} (h : y < x) : if_icmp.holds .gt x y = true ∧ if_icmp.holds .le x y = false := ⟨(tlt h).2.2.1, (tlt h).2.2.2⟩
theorem c_fgt {x y : Int32} (h : ¬ y < x) : if_icmp.holds .gt x y = false ∧ if_icmp.holds .le x y = true := ⟨(flt h).2.2.1, (flt h).2.2.2⟩
theorem c_teq {x y : Int32} (h : x = y) : if_icmp.holds .eq x y = true ∧ if_icmp.holds .ne x y = false := teq h
theorem c_feq {x y : Int32} (h : ¬ x = y) : if_icmp.holds .eq x y = false ∧ if_icmp.holds .ne x y = true := feq h
theorem l_tlt {x y : Int64} (h : x < y) : ifCond.holds .lt (lcmpW x y) = true ∧ ifCond.holds .ge (lcmpW x y) = false := z_tlt ((lw_lt x y).mpr h)
theorem l_flt {x y : Int64} (h : ¬ x < y) : ifCond.holds .lt (lcmpW x y) = false ∧ ifCond.holds .ge (lcmpW x y) = true := z_flt (fun q => h ((lw_lt x y).mp q))
theorem l_tgt {x y : Int64} (h : y < x) : ifCond.holds .gt (lcmpW x y) = true ∧ ifCond.holds .le (lcmpW x y) = false := z_tgt ((lw_gt x y).mpr h)
theorem l_fgt {x y : Int64} (h : ¬ y < x) : ifCond.holds .gt (lcmpW x y) = false ∧ ifCond.holds .le (lcmpW x y) = true := z_fgt (fun q => h ((lw_gt x y).mp q))
theorem l_teq {x y : Int64} (h : x = y) : ifCond.holds .eq (lcmpW x y) = true ∧ ifCond.holds .ne (lcmpW x y) = false := z_teq ((lw_eq x y).mpr h)
theorem l_feq {x y : Int64} (h : ¬ x = y) : ifCond.holds .eq (lcmpW x y) = false ∧ ifCond.holds .ne (lcmpW x y) = true := z_feq (fun q => h ((lw_eq x y).mp q))
end Own
section OwnA
variable {p : Program} {l : Launch} {e : Env} {R : Room} {s : State} {m : MethodId} {args : Array Value} {below : List Frame} {meth : Method} {c : Code} {T : State} {locs : List Loc} {cells slots : Nat} {Q : Option Value → Heap → List Loc → Prop} {kc ks : Nat} {Z : State} {a0 : Array Value} {h h' : Heap} {a b : Addr} {ty : FieldType} {n : Nat} {f : Nat → Value}
/-- an array of n values: the i-th is f i -/
def OAr (Z : State) (h : Heap) (a : Addr) (ty : FieldType) (n : Nat) (f : Nat → Value) : Prop := ∃ c : Cell, Arr Z h a c ty ∧ c.slots.size = n ∧ ∀ i, i < n → c.slots[i]? = some (f i)
theorem OAr.ext (E : Ext h h') (F : OAr Z h b ty n f) : OAr Z h' b ty n f := by obtain ⟨c, A, r⟩ := F; exact ⟨c, A.ext E, r⟩
theorem OAr.other {sl : Nat} {v : Value} (W : Wr h h' a sl v) (F : OAr Z h b ty n f) (q : b ≠ a) : OAr Z h' b ty n f := by obtain ⟨c, A, r⟩ := F; exact ⟨c, A.other W q, r⟩
theorem OAr.keep {ws : List Addr} (F : OAr Z h b ty n f) (K : Keep h h' ws) (q : b ∉ ws) : OAr Z h' b ty n f := by obtain ⟨c, A, r⟩ := F; exact ⟨c, ⟨K.2.1 b c A.1 q, A.2⟩, r⟩
theorem OAr.lt (F : OAr Z h a ty n f) : a < h.size := by obtain ⟨c, A, -⟩ := F; exact A.lt
theorem OAr.cg {g : Nat → Value} (F : OAr Z h a ty n f) (q : ∀ i, i < n → g i = f i) : OAr Z h a ty n g := by obtain ⟨c, A, r, H⟩ := F; exact ⟨c, A, r, fun i hi => by rw [q i hi]; exact H i hi⟩
theorem OAr.same {j : Nat} {v : Value} (W : Wr h h' a j v) (F : OAr Z h a ty n f) : OAr Z h' a ty n (fun i => if i = j then v else f i) := by
  obtain ⟨c, A, r, H⟩ := F
  refine ⟨_, Arr.same W A, by simp [Cell.setSlot, r], fun i hi => ?_⟩
  obtain ⟨c', h1, -, h3, -⟩ := W
  have hlt : j < c.slots.size := by have := h1.symm.trans A.1; cases this; exact h3
  simp only [Cell.setSlot]
  rw [Array.getElem?_setIfInBounds]
  by_cases q : j = i
  · subst q; simp [hlt]
  · rw [if_neg q, if_neg (fun z => q z.symm)]; exact H i hi
theorem OAr.new {k : ClassId} {z : Int32} (A : Arr Z h a (newA k ty z) ty) : OAr Z h a ty z.toNatClampNeg (fun _ => defaultValue ty) :=
  ⟨_, A, sz_new _ _ _, fun i hi => by simp [newA, hi]⟩
/-- the first values by a list -/
def lk (vs : List Value) (k : Nat) : Value := vs.getD k .null
theorem OAr.setL {vs : List Value} {j : Nat} {v : Value} (W : Wr h h' a j v) (F : OAr Z h a ty n (lk vs)) (hj : j < vs.length) : OAr Z h' a ty n (lk (vs.set j v)) :=
  (OAr.same W F).cg fun i hi => by
    unfold lk
    by_cases q : i = j
    · subst q; simp [hj]
    · simp only [List.getD_eq_getElem?_getD, List.getElem?_set, if_neg q, if_neg (fun z : j = i => q z.symm)]
theorem o_alen (X : Stand p l e R s m args below meth c T locs cells slots) (hx : p.tables.exec = Jvm.exec) (hZ : Z.Warmed39 s.vm) {pc pc' : Nat} {Ls : Array Slot} {rest : List Value} (eT : T.heap = h) (F : OAr Z h a ty n f) (hd : decode c.code pc = .ok (.arraylength, 1)) (z : Int32) (hz : n.toInt32 = z) (hp : pc + 1 = pc') (k : OG p e below s Q kc ks T (mkF m pc' Ls (.int z :: rest))) : OG p e below s Q kc ks T (mkF m pc Ls (.ref a :: rest)) := by
  subst hp hz
  obtain ⟨cl, A, r, H⟩ := F
  exact OG.step (fun t q => X.arraylength hx (by rw [eT]; exact A.1) (State.isArrayOf_alike hZ.alike A.2.1) (g := mkF m pc Ls (.ref a :: rest)) rfl rfl hd t (by rw [r]; exact q)) k
theorem o_newarr (X : Stand p l e R s m args below meth c T locs cells slots) (hx : p.tables.exec = Jvm.exec) (hZ : Z.Warmed39 s.vm) {pc pc' : Nat} {Ls : Array Slot} {rest : List Value} {aty : ArrayType} {z : Int32} (eT : T.heap = h) (w : (Cond.arrayClass (newarray.typeOf aty)).before a0 Z = true) (hd : decode c.code pc = .ok (.newarray aty, 2)) (hn : ¬ z < 0) (cap : Nat) (hcap : z.toNatClampNeg ≤ cap) (hb : cap * 8 ≤ 536870912) (hc : cells + 1 ≤ R.cells) (hl : slots + cap ≤ R.slots) (hp : pc + 2 = pc')
    (k : ∀ T' h' a, Stand p l e R s m args below meth c T' locs (cells + 1) (slots + cap) → T'.heap = h' → a = h.size → Ext h h' → OAr Z h' a (newarray.typeOf aty) z.toNatClampNeg (fun _ => defaultValue (newarray.typeOf aty)) → OG p e below s Q kc ks T' (mkF m pc' Ls (.ref a :: rest))) : OG p e below s Q kc ks T (mkF m pc Ls (.int z :: rest)) := by
  subst hp
  obtain ⟨T1, h1, cA, X1, e1, E1, A1, st1⟩ := newP X hx hZ w eT (g := mkF m pc Ls (.int z :: rest)) rfl hd rfl hn hcap hb hc hl
  exact OG.step st1 (k T1 h1 _ X1 e1 rfl E1 (OAr.new A1))
theorem o_inb {cl : Cell} {j : Int32} (r : cl.slots.size = n) (hj : ¬ j < 0) (hlt : j.toNatClampNeg < n) : ¬ (j < 0 ∨ cl.slots.size ≤ j.toNatClampNeg) := by
  rintro (q | q)
  · exact hj q
  · omega
theorem o_iaload (X : Stand p l e R s m args below meth c T locs cells slots) (hx : p.tables.exec = Jvm.exec) (hZ : Z.Warmed39 s.vm) {pc pc' : Nat} {Ls : Array Slot} {rest : List Value} {j : Int32} (eT : T.heap = h) (F : OAr Z h a .int n f) (hd : decode c.code pc = .ok (.iaload, 1)) (hj : ¬ j < 0) (hlt : j.toNatClampNeg < n) (x : Int32) (hv : f j.toNatClampNeg = .int x) (hp : pc + 1 = pc') (k : OG p e below s Q kc ks T (mkF m pc' Ls (.int x :: rest))) : OG p e below s Q kc ks T (mkF m pc Ls (.int j :: .ref a :: rest)) := by
  subst hp
  obtain ⟨cl, A, r, H⟩ := F
  exact OG.step (fun t q => X.iaload hx (j := j) (v := .int x) (by rw [eT]; exact A.1) (State.isArrayOf_alike hZ.alike A.2.1) A.2.2 (o_inb r hj hlt) (by rw [H _ hlt, hv]) (g := mkF m pc Ls (.int j :: .ref a :: rest)) rfl rfl hd t q) k
theorem o_laload (X : Stand p l e R s m args below meth c T locs cells slots) (hx : p.tables.exec = Jvm.exec) (hZ : Z.Warmed39 s.vm) {pc pc' : Nat} {Ls : Array Slot} {rest : List Value} {j : Int32} (eT : T.heap = h) (F : OAr Z h a .long n f) (hd : decode c.code pc = .ok (.laload, 1)) (hj : ¬ j < 0) (hlt : j.toNatClampNeg < n) (x : Int64) (hv : f j.toNatClampNeg = .long x) (hp : pc + 1 = pc') (k : OG p e below s Q kc ks T (mkF m pc' Ls (.long x :: rest))) : OG p e below s Q kc ks T (mkF m pc Ls (.int j :: .ref a :: rest)) := by
  subst hp
  obtain ⟨cl, A, r, H⟩ := F
  exact OG.step (fun t q => X.laload hx (j := j) (v := .long x) (by rw [eT]; exact A.1) (State.isArrayOf_alike hZ.alike A.2.1) A.2.2 (o_inb r hj hlt) (by rw [H _ hlt, hv]) (g := mkF m pc Ls (.int j :: .ref a :: rest)) rfl rfl hd t q) k
theorem o_caload (X : Stand p l e R s m args below meth c T locs cells slots) (hx : p.tables.exec = Jvm.exec) (hZ : Z.Warmed39 s.vm) {pc pc' : Nat} {Ls : Array Slot} {rest : List Value} {j : Int32} (eT : T.heap = h) (F : OAr Z h a .char n f) (hd : decode c.code pc = .ok (.caload, 1)) (hj : ¬ j < 0) (hlt : j.toNatClampNeg < n) (x : Int32) (hv : f j.toNatClampNeg = .int x) (hp : pc + 1 = pc') (k : OG p e below s Q kc ks T (mkF m pc' Ls (.int x :: rest))) : OG p e below s Q kc ks T (mkF m pc Ls (.int j :: .ref a :: rest)) := by
  subst hp
  obtain ⟨cl, A, r, H⟩ := F
  exact OG.step (fun t q => X.caload hx (j := j) (v := .int x) (by rw [eT]; exact A.1) (State.isArrayOf_alike hZ.alike A.2.1) A.2.2 (o_inb r hj hlt) (by rw [H _ hlt, hv]) (g := mkF m pc Ls (.int j :: .ref a :: rest)) rfl rfl hd t q) k
theorem o_baload (X : Stand p l e R s m args below meth c T locs cells slots) (hx : p.tables.exec = Jvm.exec) (hZ : Z.Warmed39 s.vm) {pc pc' : Nat} {Ls : Array Slot} {rest : List Value} {j : Int32} (eT : T.heap = h) (F : OAr Z h a .byte n f) (hd : decode c.code pc = .ok (.baload, 1)) (hj : ¬ j < 0) (hlt : j.toNatClampNeg < n) (x : Int32) (hv : f j.toNatClampNeg = .int x) (hp : pc + 1 = pc') (k : OG p e below s Q kc ks T (mkF m pc' Ls (.int x :: rest))) : OG p e below s Q kc ks T (mkF m pc Ls (.int j :: .ref a :: rest)) := by
  subst hp
  obtain ⟨cl, A, r, H⟩ := F
  exact OG.step (fun t q => X.baloadBytes hx (j := j) (v := .int x) (by rw [eT]; exact A.1) (State.isArrayOf_alike hZ.alike A.2.1) A.2.2 (o_inb r hj hlt) (by rw [H _ hlt, hv]) (g := mkF m pc Ls (.int j :: .ref a :: rest)) rfl rfl hd t q) k
theorem o_iastore (X : Stand p l e R s m args below meth c T locs cells slots) (hx : p.tables.exec = Jvm.exec) (hZ : Z.Warmed39 s.vm) {pc pc' : Nat} {Ls : Array Slot} {rest : List Value} {j : Int32} {x : Int32} (eT : T.heap = h) (F : OAr Z h a .int n f) (hd : decode c.code pc = .ok (.iastore, 1)) (hj : ¬ j < 0) (hlt : j.toNatClampNeg < n) (hp : pc + 1 = pc')
    (k : ∀ T' h', Stand p l e R s m args below meth c T' (locs ++ [⟨a, j.toNatClampNeg⟩]) cells slots → T'.heap = h' → Wr h h' a j.toNatClampNeg (.int x) → OG p e below s Q kc ks T' (mkF m pc' Ls rest)) : OG p e below s Q kc ks T (mkF m pc Ls (.int x :: .int j :: .ref a :: rest)) := by
  subst hp
  obtain ⟨cl, A, r, H⟩ := F
  obtain ⟨T1, h1, X1, e1, W1, st1⟩ := stI X hx hZ eT A (o_inb r hj hlt) (g := mkF m pc Ls (.int x :: .int j :: .ref a :: rest)) rfl rfl hd
  exact OG.step st1 (k T1 h1 X1 e1 W1)
theorem o_lastore (X : Stand p l e R s m args below meth c T locs cells slots) (hx : p.tables.exec = Jvm.exec) (hZ : Z.Warmed39 s.vm) {pc pc' : Nat} {Ls : Array Slot} {rest : List Value} {j : Int32} {x : Int64} (eT : T.heap = h) (F : OAr Z h a .long n f) (hd : decode c.code pc = .ok (.lastore, 1)) (hj : ¬ j < 0) (hlt : j.toNatClampNeg < n) (hp : pc + 1 = pc')
    (k : ∀ T' h', Stand p l e R s m args below meth c T' (locs ++ [⟨a, j.toNatClampNeg⟩]) cells slots → T'.heap = h' → Wr h h' a j.toNatClampNeg (.long x) → OG p e below s Q kc ks T' (mkF m pc' Ls rest)) : OG p e below s Q kc ks T (mkF m pc Ls (.long x :: .int j :: .ref a :: rest)) := by
  subst hp
  obtain ⟨cl, A, r, H⟩ := F
  obtain ⟨T1, h1, X1, e1, W1, st1⟩ := stJ X hx hZ eT A (o_inb r hj hlt) (g := mkF m pc Ls (.long x :: .int j :: .ref a :: rest)) rfl rfl hd
  exact OG.step st1 (k T1 h1 X1 e1 W1)
theorem o_castore (X : Stand p l e R s m args below meth c T locs cells slots) (hx : p.tables.exec = Jvm.exec) (hZ : Z.Warmed39 s.vm) {pc pc' : Nat} {Ls : Array Slot} {rest : List Value} {j : Int32} {x : Int32} (eT : T.heap = h) (F : OAr Z h a .char n f) (hd : decode c.code pc = .ok (.castore, 1)) (hj : ¬ j < 0) (hlt : j.toNatClampNeg < n) (hp : pc + 1 = pc')
    (k : ∀ T' h', Stand p l e R s m args below meth c T' (locs ++ [⟨a, j.toNatClampNeg⟩]) cells slots → T'.heap = h' → Wr h h' a j.toNatClampNeg (.int (nar .char x)) → OG p e below s Q kc ks T' (mkF m pc' Ls rest)) : OG p e below s Q kc ks T (mkF m pc Ls (.int x :: .int j :: .ref a :: rest)) := by
  subst hp
  obtain ⟨cl, A, r, H⟩ := F
  obtain ⟨T1, h1, X1, e1, W1, st1⟩ := stC X hx hZ eT A (o_inb r hj hlt) (g := mkF m pc Ls (.int x :: .int j :: .ref a :: rest)) rfl rfl hd
  exact OG.step st1 (k T1 h1 X1 e1 W1)
theorem o_bastore (X : Stand p l e R s m args below meth c T locs cells slots) (hx : p.tables.exec = Jvm.exec) (hZ : Z.Warmed39 s.vm) {pc pc' : Nat} {Ls : Array Slot} {rest : List Value} {j : Int32} {x : Int32} (eT : T.heap = h) (F : OAr Z h a .byte n f) (hd : decode c.code pc = .ok (.bastore, 1)) (hj : ¬ j < 0) (hlt : j.toNatClampNeg < n) (hp : pc + 1 = pc')
    (k : ∀ T' h', Stand p l e R s m args below meth c T' (locs ++ [⟨a, j.toNatClampNeg⟩]) cells slots → T'.heap = h' → Wr h h' a j.toNatClampNeg (.int (nar .byte x)) → OG p e below s Q kc ks T' (mkF m pc' Ls rest)) : OG p e below s Q kc ks T (mkF m pc Ls (.int x :: .int j :: .ref a :: rest)) := by
  subst hp
  obtain ⟨cl, A, r, H⟩ := F
  obtain ⟨T1, h1, X1, e1, W1, st1⟩ := stB X hx hZ eT A (o_inb r hj hlt) (g := mkF m pc Ls (.int x :: .int j :: .ref a :: rest)) rfl rfl hd
  exact OG.step st1 (k T1 h1 X1 e1 W1)
theorem o_private (X : Stand p l e R s m args below meth c T locs cells slots) (hx : p.tables.exec = Jvm.exec) (hZ : Z.Warmed39 s.vm) {own : String} {index kk : Nat} {y : MethodName} {bytes : ByteArray} {maxL : Nat} {ret : Option FieldType} {rm : Room} {Qc : Option Value → Heap → List Loc → Prop} {argsL rest st : List Value} {pc pc' : Nat} {Ls : Array Slot} (W : Nat)
    (hown : s.vm.findClass own = some m.cls) (eT : T.heap = h) (hlink : (Cond.methodLink own index y).before a0 Z = true) (hinst : (Cond.instanceMethod y).before a0 Z = true) (hpriv : (Cond.privateMethod y).before a0 Z = true) (wi : (Cond.instantiable y.cls kk).before a0 Z = true) (hinit : (Cond.initialized y.cls).before a0 Z = true) (hcode : (Cond.code y bytes maxL ret).before a0 Z = true) (hy : y.cls ≠ "java/lang/invoke/MethodHandle" ∧ y.cls ≠ "java/lang/invoke/VarHandle")
    (E : Exa Z h a y.cls)
    (hM : MetFree l y (head1 [Cond.code y bytes maxL ret] rm) (fun b U => b = (.ref a :: argsL).toArray ∧ Z.Warmed39 U.vm ∧ U.heap = h) (fun _ _ _ _ _ => True) (fun _ U o U' => ∃ v L, o = .returned v ∧ Qc v U'.heap L ∧ FrameEnd U o U' L rm.cells rm.slots)) (hf : rm.frames + 1 ≤ R.frames) (hl : W + (maxL + 11) + rm.locals ≤ R.locals)
    (hsize : Ls.size = c.maxLocals) (hlen : ∀ sig, parseMethodDescriptor y.desc = some sig → argsL.length = sig.parameters.length) (hs : st = argsL.reverse ++ .ref a :: rest) (hW : (rest.map fun v => v.category).sum ≤ W) (hd : decode c.code pc = .ok (.invokevirtual index, 3)) (hp : pc + 3 = pc') (hc : cells + rm.cells ≤ R.cells) (hsl : slots + rm.slots ≤ R.slots)
    (k : ∀ v T' L, Stand p l e R s m args below meth c T' (locs ++ L) (cells + rm.cells) (slots + rm.slots) → Qc v T'.heap L → OG p e below s Q kc ks T' (mkF m pc' Ls (v.toList ++ rest))) : OG p e below s Q kc ks T (mkF m pc Ls st) := by
  subst hp hs
  obtain ⟨cq, q1, q2⟩ := E.cell
  have hpa := Cond.privateMethod_at (mvP hZ hpriv (args := args))
  obtain ⟨cI, kI, i1, i2, -, i4, -⟩ := Cond.instantiable_spec (mvT hZ wi : (Cond.instantiable y.cls kk).before args s = true)
  have hni : kI.isInterface = false := (Bool.or_eq_false_iff.mp i4).1
  have hsel := selects_self_of_private (args := args) i1 i2 hni hpa (mvT hZ hinst) hy
  obtain ⟨v, vm₁, ⟨T1, L1, c1, n1⟩, -, X1, ⟨Lc, hQ, l1, y1, z1⟩, st⟩ := X.privateBack hx (y := y) hown (mvT hZ hlink) (mvT hZ hinst) hsel hpa (mvT hZ hcode) hy (backOf (W := W) hM hZ hcode hinit hf hl) (g := mkF m pc Ls (argsL.reverse ++ .ref a :: rest)) rfl hsize (Steps.refl _) (a := a) (by rw [eT]; exact q1) q2 (argsL := argsL) (rest := rest) hlen rfl (by show 2 * 0 + _ ≤ _; omega) hd (fun _ _ => ⟨rfl, eT, hc, hsl⟩)
  dsimp only [Pt.U, Pt.locs, Pt.cells, Pt.slots] at X1 l1 y1 z1 st hQ
  subst l1 y1 z1
  exact OG.step (fun t q => st.trans q) (k v T1 Lc X1 hQ)
end OwnA
section OwnB
def ci (c : Nat → Int32) : Nat → Value := fun i => .int (c i)
def cj (c : Nat → Int64) : Nat → Value := fun i => .long (c i)
def li (vs : List Int32) (i : Nat) : Int32 := vs.getD i 0
def upd (c : Nat → Int32) (j : Nat) (x : Int32) : Nat → Int32 := fun i => if i = j then x else c i
def updJ (c : Nat → Int64) (j : Nat) (x : Int64) : Nat → Int64 := fun i => if i = j then x else c i
variable {Z : State} {h h' : Heap} {a : Addr} {ty : FieldType} {n : Nat}
theorem OAr.setI {vs : List Int32} {j : Nat} {x : Int32} (W : Wr h h' a j (.int x)) (F : OAr Z h a ty n (ci (li vs))) (hj : j < vs.length) : OAr Z h' a ty n (ci (li (vs.set j x))) :=
  (OAr.same W F).cg fun i hi => by
    unfold ci li
    by_cases q : i = j
    · subst q; simp [hj]
    · simp only [List.getD_eq_getElem?_getD, List.getElem?_set, if_neg q, if_neg (fun z : j = i => q z.symm)]
theorem OAr.updI {c : Nat → Int32} {j : Nat} {x : Int32} (W : Wr h h' a j (.int x)) (F : OAr Z h a ty n (ci c)) : OAr Z h' a ty n (ci (upd c j x)) :=
  (OAr.same W F).cg fun i hi => by unfold ci upd; split <;> rfl
theorem OAr.updJ {c : Nat → Int64} {j : Nat} {x : Int64} (W : Wr h h' a j (.long x)) (F : OAr Z h a ty n (cj c)) : OAr Z h' a ty n (cj (updJ c j x)) :=
  (OAr.same W F).cg fun i hi => by unfold cj Jvm.Pilot.@@N@@.updJ; split <;> rfl
theorem OAr.zeros {k : Nat} (F : OAr Z h a ty n (fun _ => .int 0)) : OAr Z h a ty n (ci (li (List.replicate k 0))) :=
  F.cg fun i hi => by unfold ci li; by_cases q : i < k <;> simp [q]
theorem own_back {z : Int32} (q : ¬ z < 0) : z.toNatClampNeg.toInt32 = z := (back32 q).1
end OwnB

theorem d1_0 : decode method_2_code 0 = .ok (.iload_n 0, 1) := by decide +kernel
theorem d1_1 : decode method_2_code 1 = .ok (.iload_n 1, 1) := by decide +kernel
theorem d1_2 : decode method_2_code 2 = .ok (.isub, 1) := by decide +kernel
theorem d1_3 : decode method_2_code 3 = .ok (.istore 7, 2) := by decide +kernel
theorem d1_5 : decode method_2_code 5 = .ok (.iload 7, 2) := by decide +kernel
theorem d1_7 : decode method_2_code 7 = .ok (.ifCond .lt 9, 3) := by decide +kernel
theorem d1_16 : decode method_2_code 16 = .ok (.lload 5, 2) := by decide +kernel
theorem d1_18 : decode method_2_code 18 = .ok (.iload_n 0, 1) := by decide +kernel
theorem d1_19 : decode method_2_code 19 = .ok (.bipush 7, 2) := by decide +kernel
theorem d1_21 : decode method_2_code 21 = .ok (.iand, 1) := by decide +kernel
theorem d1_22 : decode method_2_code 22 = .ok (.bipush 8, 2) := by decide +kernel
theorem d1_24 : decode method_2_code 24 = .ok (.imul, 1) := by decide +kernel
theorem d1_25 : decode method_2_code 25 = .ok (.lushr, 1) := by decide +kernel
theorem d1_26 : decode method_2_code 26 = .ok (.l2i, 1) := by decide +kernel
theorem d1_27 : decode method_2_code 27 = .ok (.i2b, 1) := by decide +kernel
theorem d1_28 : decode method_2_code 28 = .ok (.ireturn, 1) := by decide +kernel
theorem d1_10 : decode method_2_code 10 = .ok (.iload 7, 2) := by decide +kernel
theorem d1_12 : decode method_2_code 12 = .ok (.iload_n 2, 1) := by decide +kernel
theorem d1_13 : decode method_2_code 13 = .ok (.if_icmp .lt 16, 3) := by decide +kernel
theorem d1_29 : decode method_2_code 29 = .ok (.lload_n 3, 1) := by decide +kernel
theorem d1_30 : decode method_2_code 30 = .ok (.bipush 7, 2) := by decide +kernel
theorem d1_32 : decode method_2_code 32 = .ok (.iload 7, 2) := by decide +kernel
theorem d1_34 : decode method_2_code 34 = .ok (.imul, 1) := by decide +kernel
theorem d1_35 : decode method_2_code 35 = .ok (.lushr, 1) := by decide +kernel
theorem d1_36 : decode method_2_code 36 = .ok (.ldc2_w 7, 3) := by decide +kernel
theorem d1_39 : decode method_2_code 39 = .ok (.land, 1) := by decide +kernel
theorem d1_40 : decode method_2_code 40 = .ok (.l2i, 1) := by decide +kernel
theorem d1_41 : decode method_2_code 41 = .ok (.istore 8, 2) := by decide +kernel
theorem d1_43 : decode method_2_code 43 = .ok (.iload 7, 2) := by decide +kernel
theorem d1_45 : decode method_2_code 45 = .ok (.iload_n 2, 1) := by decide +kernel
theorem d1_46 : decode method_2_code 46 = .ok (.iconst 1, 1) := by decide +kernel
theorem d1_47 : decode method_2_code 47 = .ok (.isub, 1) := by decide +kernel
theorem d1_48 : decode method_2_code 48 = .ok (.if_icmp .ge 9, 3) := by decide +kernel
theorem d1_51 : decode method_2_code 51 = .ok (.sipush 128, 3) := by decide +kernel
theorem d1_54 : decode method_2_code 54 = .ok (.goto 4, 3) := by decide +kernel
theorem d1_58 : decode method_2_code 58 = .ok (.istore 9, 2) := by decide +kernel
theorem d1_60 : decode method_2_code 60 = .ok (.iload 8, 2) := by decide +kernel
theorem d1_62 : decode method_2_code 62 = .ok (.iload 9, 2) := by decide +kernel
theorem d1_64 : decode method_2_code 64 = .ok (.ior, 1) := by decide +kernel
theorem d1_65 : decode method_2_code 65 = .ok (.i2b, 1) := by decide +kernel
theorem d1_66 : decode method_2_code 66 = .ok (.ireturn, 1) := by decide +kernel
theorem d1_57 : decode method_2_code 57 = .ok (.iconst 0, 1) := by decide +kernel
def f1_16 (x0 : Int32) (x5 : Int64) : Int32 := (nar .byte ((((x5.toUInt64 >>> (((x0 &&& (7 : Int32)) * (8 : Int32)) &&& 0x3f).toInt64.toUInt64).toInt64).toInt32).toInt8.toInt32))
set_option maxRecDepth 65536 in
set_option maxHeartbeats 40000000 in
theorem b1_16 {p : Program} {l : Launch} {e : Env} {s : State} {m : MethodId} {args : Array Value} {below : List Frame} {meth : Method} {c : Code} {Z : State} {a0 : Array Value} {h0 : Heap} {n0 : Nat} (hx : p.tables.exec = Jvm.exec) (hZ : Z.Warmed39 s.vm) (hw : ∀ d ∈ tables_1, d.before a0 Z = true) (hby : c.code = method_2_code) (hml : c.maxLocals = 10) (hown : s.vm.findClass "com/example/libtreegram/libtreegram/io/Leb128ValuePinLaw" = some m.cls) (hnm : meth.name = "at") (hret : meth.sig.returnType = some .byte) (hlk : meth.locks = false)  {T : State} {locs : List Loc} (x0 : Int32) (d1 : Int32) (d2 : Int32) (d3 : Int64) (x5 : Int64) (d7 : Int32) (r : Int32) (X : Stand p l e ({ frames := 0, cells := 0, slots := 0, locals := 0 } : Room) s m args below meth c T locs 0 0) (eT : T.heap = h0) (N : Fr n0 locs) (Z0 : n0 ≤ h0.size) (hr : f1_16 x0 x5 = r) :
    OG p e below s (fun v h L => v = (some (.int r)) ∧ Fr n0 L ∧ h = h0) 0 0 T (mkF m 16 #[.val (.int x0), .val (.int d1), .val (.int d2), .val (.long d3), .second, .val (.long x5), .second, .val (.int d7), .unset, .unset] []) := by
  have hr : (nar .byte ((((x5.toUInt64 >>> (((x0 &&& (7 : Int32)) * (8 : Int32)) &&& 0x3f).toInt64.toUInt64).toInt64).toInt32).toInt8.toInt32)) = r := hr
  refine o_lload X hx (hb hby d1_16) rfl (pc' := 18) rfl ?_
  refine o_iload_n X hx (hb hby d1_18) rfl (pc' := 19) rfl ?_
  refine o_bipush X hx (hb hby d1_19) (7 : Int32) rfl (pc' := 21) rfl ?_
  refine o_iand X hx (hb hby d1_21) (pc' := 22) rfl ?_
  refine o_bipush X hx (hb hby d1_22) (8 : Int32) rfl (pc' := 24) rfl ?_
  refine o_imul X hx (hb hby d1_24) (pc' := 25) rfl ?_
  refine o_lushr X hx (hb hby d1_25) (pc' := 26) rfl ?_
  refine o_l2i X hx (hb hby d1_26) (pc' := 27) rfl ?_
  refine o_i2b X hx (hb hby d1_27) (pc' := 28) rfl ?_
  subst hr
  exact o_retN X hx hlk (t := .byte) (by simp) hret (hb hby d1_28) rfl ⟨rfl, N, eT⟩ (by decide) (by decide)
def f1_58 (x8 : Int32) (t0 : Int32) : Int32 := (nar .byte ((x8 ||| t0).toInt8.toInt32))
set_option maxRecDepth 65536 in
set_option maxHeartbeats 40000000 in
theorem b1_58 {p : Program} {l : Launch} {e : Env} {s : State} {m : MethodId} {args : Array Value} {below : List Frame} {meth : Method} {c : Code} {Z : State} {a0 : Array Value} {h0 : Heap} {n0 : Nat} (hx : p.tables.exec = Jvm.exec) (hZ : Z.Warmed39 s.vm) (hw : ∀ d ∈ tables_1, d.before a0 Z = true) (hby : c.code = method_2_code) (hml : c.maxLocals = 10) (hown : s.vm.findClass "com/example/libtreegram/libtreegram/io/Leb128ValuePinLaw" = some m.cls) (hnm : meth.name = "at") (hret : meth.sig.returnType = some .byte) (hlk : meth.locks = false)  {T : State} {locs : List Loc} (d0 : Int32) (d1 : Int32) (d2 : Int32) (d3 : Int64) (d5 : Int64) (d7 : Int32) (x8 : Int32) (t0 : Int32) (r : Int32) (X : Stand p l e ({ frames := 0, cells := 0, slots := 0, locals := 0 } : Room) s m args below meth c T locs 0 0) (eT : T.heap = h0) (N : Fr n0 locs) (Z0 : n0 ≤ h0.size) (hr : f1_58 x8 t0 = r) :
    OG p e below s (fun v h L => v = (some (.int r)) ∧ Fr n0 L ∧ h = h0) 0 0 T (mkF m 58 #[.val (.int d0), .val (.int d1), .val (.int d2), .val (.long d3), .second, .val (.long d5), .second, .val (.int d7), .val (.int x8), .unset] [(.int t0)]) := by
  have hr : (nar .byte ((x8 ||| t0).toInt8.toInt32)) = r := hr
  refine o_istore X hx (hb hby d1_58) #[.val (.int d0), .val (.int d1), .val (.int d2), .val (.long d3), .second, .val (.long d5), .second, .val (.int d7), .val (.int x8), .val (.int t0)] rfl (pc' := 60) rfl ?_
  refine o_iload X hx (hb hby d1_60) rfl (pc' := 62) rfl ?_
  refine o_iload X hx (hb hby d1_62) rfl (pc' := 64) rfl ?_
  refine o_ior X hx (hb hby d1_64) (pc' := 65) rfl ?_
  refine o_i2b X hx (hb hby d1_65) (pc' := 66) rfl ?_
  subst hr
  exact o_retN X hx hlk (t := .byte) (by simp) hret (hb hby d1_66) rfl ⟨rfl, N, eT⟩ (by decide) (by decide)
def f1_43 (x2 : Int32) (x7 : Int32) (x8 : Int32) : Int32 := (if x7 < (x2 - (1 : Int32)) then (f1_58 x8 (128 : Int32)) else (f1_58 x8 (0 : Int32)))
set_option maxRecDepth 65536 in
set_option maxHeartbeats 40000000 in
theorem b1_43 {p : Program} {l : Launch} {e : Env} {s : State} {m : MethodId} {args : Array Value} {below : List Frame} {meth : Method} {c : Code} {Z : State} {a0 : Array Value} {h0 : Heap} {n0 : Nat} (hx : p.tables.exec = Jvm.exec) (hZ : Z.Warmed39 s.vm) (hw : ∀ d ∈ tables_1, d.before a0 Z = true) (hby : c.code = method_2_code) (hml : c.maxLocals = 10) (hown : s.vm.findClass "com/example/libtreegram/libtreegram/io/Leb128ValuePinLaw" = some m.cls) (hnm : meth.name = "at") (hret : meth.sig.returnType = some .byte) (hlk : meth.locks = false)  {T : State} {locs : List Loc} (d0 : Int32) (d1 : Int32) (x2 : Int32) (d3 : Int64) (d5 : Int64) (x7 : Int32) (x8 : Int32) (r : Int32) (X : Stand p l e ({ frames := 0, cells := 0, slots := 0, locals := 0 } : Room) s m args below meth c T locs 0 0) (eT : T.heap = h0) (N : Fr n0 locs) (Z0 : n0 ≤ h0.size) (hr : f1_43 x2 x7 x8 = r) :
    OG p e below s (fun v h L => v = (some (.int r)) ∧ Fr n0 L ∧ h = h0) 0 0 T (mkF m 43 #[.val (.int d0), .val (.int d1), .val (.int x2), .val (.long d3), .second, .val (.long d5), .second, .val (.int x7), .val (.int x8), .unset] []) := by
  have hr : (if x7 < (x2 - (1 : Int32)) then (f1_58 x8 (128 : Int32)) else (f1_58 x8 (0 : Int32))) = r := hr
  refine o_iload X hx (hb hby d1_43) rfl (pc' := 45) rfl ?_
  refine o_iload_n X hx (hb hby d1_45) rfl (pc' := 46) rfl ?_
  refine o_iconst X hx (hb hby d1_46) (1 : Int32) rfl (pc' := 47) rfl ?_
  refine o_isub X hx (hb hby d1_47) (pc' := 48) rfl ?_
  by_cases hc3 : x7 < (x2 - (1 : Int32))
  · rw [if_pos hc3] at hr
    refine o_icmpNo X hx (hb hby d1_48) (c_tlt hc3).2 (pc' := 51) rfl ?_
    refine o_sipush X hx (hb hby d1_51) (128 : Int32) rfl (pc' := 54) rfl ?_
    refine o_goto X hx (hb hby d1_54) (pc' := 58) (by decide) (by decide) ?_
    exact b1_58 hx hZ hw hby hml hown hnm hret hlk d0 d1 x2 d3 d5 x7 x8 (128 : Int32) r X eT N Z0 hr
  · rw [if_neg hc3] at hr
    refine o_icmpYes X hx (hb hby d1_48) (c_flt hc3).2 (pc' := 57) (by decide) (by decide) ?_
    refine o_iconst X hx (hb hby d1_57) (0 : Int32) rfl (pc' := 58) rfl ?_
    exact b1_58 hx hZ hw hby hml hown hnm hret hlk d0 d1 x2 d3 d5 x7 x8 (0 : Int32) r X eT N Z0 hr
def f1_0 (x0 : Int32) (x1 : Int32) (x2 : Int32) (x3 : Int64) (x5 : Int64) : Int32 := (if (x0 - x1) < (0 : Int32) then (f1_16 x0 x5) else (if (x0 - x1) < x2 then (f1_43 x2 (x0 - x1) ((((x3.toUInt64 >>> (((7 : Int32) * (x0 - x1)) &&& 0x3f).toInt64.toUInt64).toInt64) &&& (127 : Int64)).toInt32)) else (f1_16 x0 x5)))
set_option maxRecDepth 65536 in
set_option maxHeartbeats 40000000 in
theorem b1_0 {p : Program} {l : Launch} {e : Env} {s : State} {m : MethodId} {args : Array Value} {below : List Frame} {meth : Method} {c : Code} {Z : State} {a0 : Array Value} {h0 : Heap} {n0 : Nat} (hx : p.tables.exec = Jvm.exec) (hZ : Z.Warmed39 s.vm) (hw : ∀ d ∈ tables_1, d.before a0 Z = true) (hby : c.code = method_2_code) (hml : c.maxLocals = 10) (hown : s.vm.findClass "com/example/libtreegram/libtreegram/io/Leb128ValuePinLaw" = some m.cls) (hnm : meth.name = "at") (hret : meth.sig.returnType = some .byte) (hlk : meth.locks = false)  {T : State} {locs : List Loc} (x0 : Int32) (x1 : Int32) (x2 : Int32) (x3 : Int64) (x5 : Int64) (r : Int32) (X : Stand p l e ({ frames := 0, cells := 0, slots := 0, locals := 0 } : Room) s m args below meth c T locs 0 0) (eT : T.heap = h0) (N : Fr n0 locs) (Z0 : n0 ≤ h0.size) (hr : f1_0 x0 x1 x2 x3 x5 = r) :
    OG p e below s (fun v h L => v = (some (.int r)) ∧ Fr n0 L ∧ h = h0) 0 0 T (mkF m 0 #[.val (.int x0), .val (.int x1), .val (.int x2), .val (.long x3), .second, .val (.long x5), .second, .unset, .unset, .unset] []) := by
  have hr : (if (x0 - x1) < (0 : Int32) then (f1_16 x0 x5) else (if (x0 - x1) < x2 then (f1_43 x2 (x0 - x1) ((((x3.toUInt64 >>> (((7 : Int32) * (x0 - x1)) &&& 0x3f).toInt64.toUInt64).toInt64) &&& (127 : Int64)).toInt32)) else (f1_16 x0 x5))) = r := hr
  refine o_iload_n X hx (hb hby d1_0) rfl (pc' := 1) rfl ?_
  refine o_iload_n X hx (hb hby d1_1) rfl (pc' := 2) rfl ?_
  refine o_isub X hx (hb hby d1_2) (pc' := 3) rfl ?_
  refine o_istore X hx (hb hby d1_3) #[.val (.int x0), .val (.int x1), .val (.int x2), .val (.long x3), .second, .val (.long x5), .second, .val (.int (x0 - x1)), .unset, .unset] rfl (pc' := 5) rfl ?_
  refine o_iload X hx (hb hby d1_5) rfl (pc' := 7) rfl ?_
  by_cases hc1 : (x0 - x1) < (0 : Int32)
  · rw [if_pos hc1] at hr
    refine o_ifYes X hx (hb hby d1_7) (z_tlt hc1).1 (pc' := 16) (by decide) (by decide) ?_
    exact b1_16 hx hZ hw hby hml hown hnm hret hlk x0 x1 x2 x3 x5 (x0 - x1) r X eT N Z0 hr
  · rw [if_neg hc1] at hr
    refine o_ifNo X hx (hb hby d1_7) (z_flt hc1).1 (pc' := 10) rfl ?_
    refine o_iload X hx (hb hby d1_10) rfl (pc' := 12) rfl ?_
    refine o_iload_n X hx (hb hby d1_12) rfl (pc' := 13) rfl ?_
    by_cases hc2 : (x0 - x1) < x2
    · rw [if_pos hc2] at hr
      refine o_icmpYes X hx (hb hby d1_13) (c_tlt hc2).1 (pc' := 29) (by decide) (by decide) ?_
      refine o_lload_n X hx (hb hby d1_29) rfl (pc' := 30) rfl ?_
      refine o_bipush X hx (hb hby d1_30) (7 : Int32) rfl (pc' := 32) rfl ?_
      refine o_iload X hx (hb hby d1_32) rfl (pc' := 34) rfl ?_
      refine o_imul X hx (hb hby d1_34) (pc' := 35) rfl ?_
      refine o_lushr X hx (hb hby d1_35) (pc' := 36) rfl ?_
      refine o_ldc2Long X hx hZ hown (hb hby d1_36) (hw _ (List.mem_of_getElem? (i := 7) rfl)) (pc' := 39) rfl ?_
      refine o_land X hx (hb hby d1_39) (pc' := 40) rfl ?_
      refine o_l2i X hx (hb hby d1_40) (pc' := 41) rfl ?_
      refine o_istore X hx (hb hby d1_41) #[.val (.int x0), .val (.int x1), .val (.int x2), .val (.long x3), .second, .val (.long x5), .second, .val (.int (x0 - x1)), .val (.int ((((x3.toUInt64 >>> (((7 : Int32) * (x0 - x1)) &&& 0x3f).toInt64.toUInt64).toInt64) &&& (127 : Int64)).toInt32)), .unset] rfl (pc' := 43) rfl ?_
      exact b1_43 hx hZ hw hby hml hown hnm hret hlk x0 x1 x2 x3 x5 (x0 - x1) ((((x3.toUInt64 >>> (((7 : Int32) * (x0 - x1)) &&& 0x3f).toInt64.toUInt64).toInt64) &&& (127 : Int64)).toInt32) r X eT N Z0 hr
    · rw [if_neg hc2] at hr
      refine o_icmpNo X hx (hb hby d1_13) (c_flt hc2).1 (pc' := 16) rfl ?_
      exact b1_16 hx hZ hw hby hml hown hnm hret hlk x0 x1 x2 x3 x5 (x0 - x1) r X eT N Z0 hr
theorem pn_1 : plainName "com/example/libtreegram/libtreegram/io/Leb128ValuePinLaw" = true := by first | (simp [plainName, overriddenIn]; done) | decide +kernel
theorem ef_1 (m : MethodId) (x0 : Int32) (x1 : Int32) (x2 : Int32) (x3 : Int64) (x5 : Int64) : entryFrame m #[(.int x0), (.int x1), (.int x2), (.long x3), (.long x5)] 10 = (mkF m 0 #[.val (.int x0), .val (.int x1), .val (.int x2), .val (.long x3), .second, .val (.long x5), .second, .unset, .unset, .unset] []) := by first | (simp [entryFrame, mkF, argsToLocals, Value.category]; done) | rfl
def Qd1 (Z : State) (h0 : Heap) (n0 : Nat) (x0 : Int32) (x1 : Int32) (x2 : Int32) (x3 : Int64) (x5 : Int64) (r : Int32) : Option Value → Heap → List Loc → Prop := (fun v h L => v = (some (.int r)) ∧ Fr n0 L ∧ h = h0)
set_option maxRecDepth 65536 in
set_option maxHeartbeats 40000000 in
theorem rm1 (l : Launch) (Z : State) (a0 : Array Value) (hw : ∀ d ∈ tables_1, d.before a0 Z = true) (ws : List Jvm.Cond) (x0 : Int32) (x1 : Int32) (x2 : Int32) (x3 : Int64) (x5 : Int64) (h0 : Heap) (n0 : Nat) (Z0 : n0 ≤ h0.size) (r : Int32) (hr : f1_0 x0 x1 x2 x3 x5 = r) :
    MetFree l (⟨"com/example/libtreegram/libtreegram/io/Leb128ValuePinLaw", "at", "(IIIJJ)B"⟩ : MethodName) (head1 (Jvm.Cond.code (⟨"com/example/libtreegram/libtreegram/io/Leb128ValuePinLaw", "at", "(IIIJJ)B"⟩ : MethodName) method_2_code 10 (some .byte) :: ws) ({ frames := 0, cells := 0, slots := 0, locals := 0 } : Room)) (fun a U => a = #[(.int x0), (.int x1), (.int x2), (.long x3), (.long x5)] ∧ Z.Warmed39 U.vm ∧ U.heap = h0) (fun _ _ _ _ _ => True) (fun _ U o U' => ∃ v L, o = .returned v ∧ (Qd1 Z h0 n0 x0 x1 x2 x3 x5 r) v U'.heap L ∧ FrameEnd U o U' L ({ frames := 0, cells := 0, slots := 0, locals := 0 } : Room).cells ({ frames := 0, cells := 0, slots := 0, locals := 0 } : Room).slots) := by
  refine MetFree.of_bodySF (plainFor_of_name pn_1) hisR ?_
  intro p e s m args below meth c s₁ Bd hml0 hP hK
  obtain ⟨rfl, hZ, hh⟩ := hP
  have e0 : s₁.heap = h0 := by rw [← hh, Bd.state]; rfl
  exact OG.cast (ef_1 m x0 x1 x2 x3 x5) (b1_0 Bd.exec hZ hw Bd.bytes hml0 (findClass_of_methodNamed Bd.named) (name_of_methodNamed Bd.named Bd.method).1 Bd.returns Bd.notSynchronized x0 x1 x2 x3 x5 r (Stand.of_body Bd) e0 (Fr.nil n0) Z0 hr)
theorem d2_0 : decode prog_53_method_5_code 0 = .ok (.aload_n 0, 1) := by decide +kernel
theorem d2_1 : decode prog_53_method_5_code 1 = .ok (.iload_n 1, 1) := by decide +kernel
theorem d2_2 : decode prog_53_method_5_code 2 = .ok (.baload, 1) := by decide +kernel
theorem d2_3 : decode prog_53_method_5_code 3 = .ok (.ifCond .lt 8, 3) := by decide +kernel
theorem d2_11 : decode prog_53_method_5_code 11 = .ok (.lconst 0, 1) := by decide +kernel
theorem d2_12 : decode prog_53_method_5_code 12 = .ok (.lstore_n 2, 1) := by decide +kernel
theorem d2_13 : decode prog_53_method_5_code 13 = .ok (.iload_n 1, 1) := by decide +kernel
theorem d2_14 : decode prog_53_method_5_code 14 = .ok (.istore 4, 2) := by decide +kernel
theorem d2_16 : decode prog_53_method_5_code 16 = .ok (.iconst 0, 1) := by decide +kernel
theorem d2_17 : decode prog_53_method_5_code 17 = .ok (.istore 5, 2) := by decide +kernel
theorem d2_19 : decode prog_53_method_5_code 19 = .ok (.lload_n 2, 1) := by decide +kernel
theorem d2_20 : decode prog_53_method_5_code 20 = .ok (.aload_n 0, 1) := by decide +kernel
theorem d2_21 : decode prog_53_method_5_code 21 = .ok (.iload 4, 2) := by decide +kernel
theorem d2_23 : decode prog_53_method_5_code 23 = .ok (.baload, 1) := by decide +kernel
theorem d2_24 : decode prog_53_method_5_code 24 = .ok (.bipush 127, 2) := by decide +kernel
theorem d2_26 : decode prog_53_method_5_code 26 = .ok (.iand, 1) := by decide +kernel
theorem d2_27 : decode prog_53_method_5_code 27 = .ok (.i2l, 1) := by decide +kernel
theorem d2_28 : decode prog_53_method_5_code 28 = .ok (.iload 5, 2) := by decide +kernel
theorem d2_30 : decode prog_53_method_5_code 30 = .ok (.lshl, 1) := by decide +kernel
theorem d2_31 : decode prog_53_method_5_code 31 = .ok (.lor, 1) := by decide +kernel
theorem d2_32 : decode prog_53_method_5_code 32 = .ok (.lstore_n 2, 1) := by decide +kernel
theorem d2_33 : decode prog_53_method_5_code 33 = .ok (.aload_n 0, 1) := by decide +kernel
theorem d2_34 : decode prog_53_method_5_code 34 = .ok (.iload 4, 2) := by decide +kernel
theorem d2_36 : decode prog_53_method_5_code 36 = .ok (.baload, 1) := by decide +kernel
theorem d2_37 : decode prog_53_method_5_code 37 = .ok (.sipush 128, 3) := by decide +kernel
theorem d2_40 : decode prog_53_method_5_code 40 = .ok (.iand, 1) := by decide +kernel
theorem d2_41 : decode prog_53_method_5_code 41 = .ok (.ifCond .ne 5, 3) := by decide +kernel
theorem d2_44 : decode prog_53_method_5_code 44 = .ok (.lload_n 2, 1) := by decide +kernel
theorem d2_45 : decode prog_53_method_5_code 45 = .ok (.lreturn, 1) := by decide +kernel
theorem d2_46 : decode prog_53_method_5_code 46 = .ok (.iinc 4 1, 3) := by decide +kernel
theorem d2_49 : decode prog_53_method_5_code 49 = .ok (.iinc 5 7, 3) := by decide +kernel
theorem d2_52 : decode prog_53_method_5_code 52 = .ok (.goto (-33), 3) := by decide +kernel
theorem d2_6 : decode prog_53_method_5_code 6 = .ok (.aload_n 0, 1) := by decide +kernel
theorem d2_7 : decode prog_53_method_5_code 7 = .ok (.iload_n 1, 1) := by decide +kernel
theorem d2_8 : decode prog_53_method_5_code 8 = .ok (.baload, 1) := by decide +kernel
theorem d2_9 : decode prog_53_method_5_code 9 = .ok (.i2l, 1) := by decide +kernel
theorem d2_10 : decode prog_53_method_5_code 10 = .ok (.lreturn, 1) := by decide +kernel
def f2_19 : Nat → (Nat → Int32) → Nat → Int64 → Int32 → Int32 → Option (Int64)
  | 0, _, _, _, _, _ => none
  | k + 1, c_o0, n_o0, x2, x4, x5 => (if (¬ (x4 < 0) ∧ Int32.toNatClampNeg x4 < n_o0) then (if (¬ (x4 < 0) ∧ Int32.toNatClampNeg x4 < n_o0) then (if ((c_o0 (Int32.toNatClampNeg x4)) &&& (128 : Int32)) = (0 : Int32) then (some (x2 ||| ((((c_o0 (Int32.toNatClampNeg x4)) &&& (127 : Int32)).toInt64) <<< (x5 &&& 0x3f).toInt64))) else (f2_19 k c_o0 n_o0 (x2 ||| ((((c_o0 (Int32.toNatClampNeg x4)) &&& (127 : Int32)).toInt64) <<< (x5 &&& 0x3f).toInt64)) (x4 + (1 : Int32)) (x5 + (7 : Int32)))) else none) else none)
set_option maxRecDepth 65536 in
set_option maxHeartbeats 40000000 in
theorem b2_19 {p : Program} {l : Launch} {e : Env} {s : State} {m : MethodId} {args : Array Value} {below : List Frame} {meth : Method} {c : Code} {Z : State} {a0 : Array Value} {h0 : Heap} {n0 : Nat} (hx : p.tables.exec = Jvm.exec) (hZ : Z.Warmed39 s.vm) (hw : ∀ d ∈ tables_1, d.before a0 Z = true) (hby : c.code = prog_53_method_5_code) (hml : c.maxLocals = 6) (hown : s.vm.findClass "com/example/libtreegram/libtreegram/io/Leb128" = some m.cls) (hnm : meth.name = "value") (hret : meth.sig.returnType = some .long) (hlk : meth.locks = false) (o0 : Addr) : ∀ (k : Nat) {T : State} {locs : List Loc} (c_o0 : Nat → Int32) (n_o0 : Nat) (d1 : Int32) (x2 : Int64) (x4 : Int32) (x5 : Int32) (r : Int64) (X : Stand p l e ({ frames := 0, cells := 0, slots := 0, locals := 0 } : Room) s m args below meth c T locs 0 0) (eT : T.heap = h0) (N : Fr n0 locs) (Z0 : n0 ≤ h0.size) (A_o0 : OAr Z h0 o0 .byte n_o0 (ci c_o0)) (hr : f2_19 k c_o0 n_o0 x2 x4 x5 = some r),
    OG p e below s (fun v h L => v = (some (.long r)) ∧ Fr n0 L ∧ h = h0) 0 0 T (mkF m 19 #[.val (.ref o0), .val (.int d1), .val (.long x2), .second, .val (.int x4), .val (.int x5)] []) := by
  intro k
  induction k with
  | zero => intros; rename_i hr; exact absurd hr (by intro q; cases q)
  | succ k ih =>
    intro T locs c_o0 n_o0 d1 x2 x4 x5 r X eT N Z0 A_o0 hr
    have hr : (if (¬ (x4 < 0) ∧ Int32.toNatClampNeg x4 < n_o0) then (if (¬ (x4 < 0) ∧ Int32.toNatClampNeg x4 < n_o0) then (if ((c_o0 (Int32.toNatClampNeg x4)) &&& (128 : Int32)) = (0 : Int32) then (some (x2 ||| ((((c_o0 (Int32.toNatClampNeg x4)) &&& (127 : Int32)).toInt64) <<< (x5 &&& 0x3f).toInt64))) else (f2_19 k c_o0 n_o0 (x2 ||| ((((c_o0 (Int32.toNatClampNeg x4)) &&& (127 : Int32)).toInt64) <<< (x5 &&& 0x3f).toInt64)) (x4 + (1 : Int32)) (x5 + (7 : Int32)))) else none) else none) = some r := hr
    refine o_lload_n X hx (hb hby d2_19) rfl (pc' := 20) rfl ?_
    refine o_aload_n X hx (hb hby d2_20) rfl rfl (pc' := 21) rfl ?_
    refine o_iload X hx (hb hby d2_21) rfl (pc' := 23) rfl ?_
    by_cases hg3 : (¬ (x4 < 0) ∧ Int32.toNatClampNeg x4 < n_o0)
    case neg => rw [if_neg hg3] at hr; cases hr
    rw [if_pos hg3] at hr
    refine o_baload X hx hZ eT A_o0 (hb hby d2_23) (And.left hg3) (And.right hg3) (c_o0 (Int32.toNatClampNeg x4)) rfl (pc' := 24) rfl ?_
    refine o_bipush X hx (hb hby d2_24) (127 : Int32) rfl (pc' := 26) rfl ?_
    refine o_iand X hx (hb hby d2_26) (pc' := 27) rfl ?_
    refine o_i2l X hx (hb hby d2_27) (pc' := 28) rfl ?_
    refine o_iload X hx (hb hby d2_28) rfl (pc' := 30) rfl ?_
    refine o_lshl X hx (hb hby d2_30) (pc' := 31) rfl ?_
    refine o_lor X hx (hb hby d2_31) (pc' := 32) rfl ?_
    refine o_lstore_n X hx (hb hby d2_32) #[.val (.ref o0), .val (.int d1), .val (.long (x2 ||| ((((c_o0 (Int32.toNatClampNeg x4)) &&& (127 : Int32)).toInt64) <<< (x5 &&& 0x3f).toInt64))), .second, .val (.int x4), .val (.int x5)] rfl (pc' := 33) rfl ?_
    refine o_aload_n X hx (hb hby d2_33) rfl rfl (pc' := 34) rfl ?_
    refine o_iload X hx (hb hby d2_34) rfl (pc' := 36) rfl ?_
    by_cases hg4 : (¬ (x4 < 0) ∧ Int32.toNatClampNeg x4 < n_o0)
    case neg => rw [if_neg hg4] at hr; cases hr
    rw [if_pos hg4] at hr
    refine o_baload X hx hZ eT A_o0 (hb hby d2_36) (And.left hg4) (And.right hg4) (c_o0 (Int32.toNatClampNeg x4)) rfl (pc' := 37) rfl ?_
    refine o_sipush X hx (hb hby d2_37) (128 : Int32) rfl (pc' := 40) rfl ?_
    refine o_iand X hx (hb hby d2_40) (pc' := 41) rfl ?_
    by_cases hc5 : ((c_o0 (Int32.toNatClampNeg x4)) &&& (128 : Int32)) = (0 : Int32)
    · rw [if_pos hc5] at hr
      refine o_ifNo X hx (hb hby d2_41) (z_teq hc5).2 (pc' := 44) rfl ?_
      refine o_lload_n X hx (hb hby d2_44) rfl (pc' := 45) rfl ?_
      obtain rfl : (x2 ||| ((((c_o0 (Int32.toNatClampNeg x4)) &&& (127 : Int32)).toInt64) <<< (x5 &&& 0x3f).toInt64)) = r := Option.some.inj hr
      exact o_retJ X hx hlk hret (hb hby d2_45) ⟨rfl, N, eT⟩ (by decide) (by decide)
    · rw [if_neg hc5] at hr
      refine o_ifYes X hx (hb hby d2_41) (z_feq hc5).2 (pc' := 46) (by decide) (by decide) ?_
      refine o_iinc X hx (hb hby d2_46) (1 : Int32) rfl rfl #[.val (.ref o0), .val (.int d1), .val (.long (x2 ||| ((((c_o0 (Int32.toNatClampNeg x4)) &&& (127 : Int32)).toInt64) <<< (x5 &&& 0x3f).toInt64))), .second, .val (.int (x4 + (1 : Int32))), .val (.int x5)] rfl (pc' := 49) rfl ?_
      refine o_iinc X hx (hb hby d2_49) (7 : Int32) rfl rfl #[.val (.ref o0), .val (.int d1), .val (.long (x2 ||| ((((c_o0 (Int32.toNatClampNeg x4)) &&& (127 : Int32)).toInt64) <<< (x5 &&& 0x3f).toInt64))), .second, .val (.int (x4 + (1 : Int32))), .val (.int (x5 + (7 : Int32)))] rfl (pc' := 52) rfl ?_
      refine o_goto X hx (hb hby d2_52) (pc' := 19) (by decide) (by decide) ?_
      exact ih c_o0 n_o0 d1 (x2 ||| ((((c_o0 (Int32.toNatClampNeg x4)) &&& (127 : Int32)).toInt64) <<< (x5 &&& 0x3f).toInt64)) (x4 + (1 : Int32)) (x5 + (7 : Int32)) r X eT N Z0 A_o0 hr
def f2_0 (c_o0 : (Nat → Int32)) (n_o0 : Nat) (x1 : Int32) : Option (Int64) := (if (¬ (x1 < 0) ∧ Int32.toNatClampNeg x1 < n_o0) then (if (c_o0 (Int32.toNatClampNeg x1)) < (0 : Int32) then (f2_19 11 c_o0 n_o0 (0 : Int64) x1 (0 : Int32)) else (if (¬ (x1 < 0) ∧ Int32.toNatClampNeg x1 < n_o0) then (some ((c_o0 (Int32.toNatClampNeg x1)).toInt64)) else none)) else none)
set_option maxRecDepth 65536 in
set_option maxHeartbeats 40000000 in
theorem b2_0 {p : Program} {l : Launch} {e : Env} {s : State} {m : MethodId} {args : Array Value} {below : List Frame} {meth : Method} {c : Code} {Z : State} {a0 : Array Value} {h0 : Heap} {n0 : Nat} (hx : p.tables.exec = Jvm.exec) (hZ : Z.Warmed39 s.vm) (hw : ∀ d ∈ tables_1, d.before a0 Z = true) (hby : c.code = prog_53_method_5_code) (hml : c.maxLocals = 6) (hown : s.vm.findClass "com/example/libtreegram/libtreegram/io/Leb128" = some m.cls) (hnm : meth.name = "value") (hret : meth.sig.returnType = some .long) (hlk : meth.locks = false) (o0 : Addr) {T : State} {locs : List Loc} (c_o0 : Nat → Int32) (n_o0 : Nat) (x1 : Int32) (r : Int64) (X : Stand p l e ({ frames := 0, cells := 0, slots := 0, locals := 0 } : Room) s m args below meth c T locs 0 0) (eT : T.heap = h0) (N : Fr n0 locs) (Z0 : n0 ≤ h0.size) (A_o0 : OAr Z h0 o0 .byte n_o0 (ci c_o0)) (hr : f2_0 c_o0 n_o0 x1 = some r) :
    OG p e below s (fun v h L => v = (some (.long r)) ∧ Fr n0 L ∧ h = h0) 0 0 T (mkF m 0 #[.val (.ref o0), .val (.int x1), .unset, .unset, .unset, .unset] []) := by
  have hr : (if (¬ (x1 < 0) ∧ Int32.toNatClampNeg x1 < n_o0) then (if (c_o0 (Int32.toNatClampNeg x1)) < (0 : Int32) then (f2_19 11 c_o0 n_o0 (0 : Int64) x1 (0 : Int32)) else (if (¬ (x1 < 0) ∧ Int32.toNatClampNeg x1 < n_o0) then (some ((c_o0 (Int32.toNatClampNeg x1)).toInt64)) else none)) else none) = some r := hr
  refine o_aload_n X hx (hb hby d2_0) rfl rfl (pc' := 1) rfl ?_
  refine o_iload_n X hx (hb hby d2_1) rfl (pc' := 2) rfl ?_
  by_cases hg1 : (¬ (x1 < 0) ∧ Int32.toNatClampNeg x1 < n_o0)
  case neg => rw [if_neg hg1] at hr; cases hr
  rw [if_pos hg1] at hr
  refine o_baload X hx hZ eT A_o0 (hb hby d2_2) (And.left hg1) (And.right hg1) (c_o0 (Int32.toNatClampNeg x1)) rfl (pc' := 3) rfl ?_
  by_cases hc2 : (c_o0 (Int32.toNatClampNeg x1)) < (0 : Int32)
  · rw [if_pos hc2] at hr
    refine o_ifYes X hx (hb hby d2_3) (z_tlt hc2).1 (pc' := 11) (by decide) (by decide) ?_
    refine o_lconst X hx (hb hby d2_11) (0 : Int64) rfl (pc' := 12) rfl ?_
    refine o_lstore_n X hx (hb hby d2_12) #[.val (.ref o0), .val (.int x1), .val (.long (0 : Int64)), .second, .unset, .unset] rfl (pc' := 13) rfl ?_
    refine o_iload_n X hx (hb hby d2_13) rfl (pc' := 14) rfl ?_
    refine o_istore X hx (hb hby d2_14) #[.val (.ref o0), .val (.int x1), .val (.long (0 : Int64)), .second, .val (.int x1), .unset] rfl (pc' := 16) rfl ?_
    refine o_iconst X hx (hb hby d2_16) (0 : Int32) rfl (pc' := 17) rfl ?_
    refine o_istore X hx (hb hby d2_17) #[.val (.ref o0), .val (.int x1), .val (.long (0 : Int64)), .second, .val (.int x1), .val (.int (0 : Int32))] rfl (pc' := 19) rfl ?_
    exact b2_19 hx hZ hw hby hml hown hnm hret hlk o0 11 c_o0 n_o0 x1 (0 : Int64) x1 (0 : Int32) r X eT N Z0 A_o0 hr
  · rw [if_neg hc2] at hr
    refine o_ifNo X hx (hb hby d2_3) (z_flt hc2).1 (pc' := 6) rfl ?_
    refine o_aload_n X hx (hb hby d2_6) rfl rfl (pc' := 7) rfl ?_
    refine o_iload_n X hx (hb hby d2_7) rfl (pc' := 8) rfl ?_
    by_cases hg6 : (¬ (x1 < 0) ∧ Int32.toNatClampNeg x1 < n_o0)
    case neg => rw [if_neg hg6] at hr; cases hr
    rw [if_pos hg6] at hr
    refine o_baload X hx hZ eT A_o0 (hb hby d2_8) (And.left hg6) (And.right hg6) (c_o0 (Int32.toNatClampNeg x1)) rfl (pc' := 9) rfl ?_
    refine o_i2l X hx (hb hby d2_9) (pc' := 10) rfl ?_
    obtain rfl : ((c_o0 (Int32.toNatClampNeg x1)).toInt64) = r := Option.some.inj hr
    exact o_retJ X hx hlk hret (hb hby d2_10) ⟨rfl, N, eT⟩ (by decide) (by decide)
theorem pn_2 : plainName "com/example/libtreegram/libtreegram/io/Leb128" = true := by first | (simp [plainName, overriddenIn]; done) | decide +kernel
theorem ef_2 (m : MethodId) (o0 : Addr) (x1 : Int32) : entryFrame m #[(.ref o0), (.int x1)] 6 = (mkF m 0 #[.val (.ref o0), .val (.int x1), .unset, .unset, .unset, .unset] []) := by first | (simp [entryFrame, mkF, argsToLocals, Value.category]; done) | rfl
def Qd2 (Z : State) (h0 : Heap) (n0 : Nat) (o0 : Addr) (x1 : Int32) (c_o0 : Nat → Int32) (n_o0 : Nat) (r : Int64) : Option Value → Heap → List Loc → Prop := (fun v h L => v = (some (.long r)) ∧ Fr n0 L ∧ h = h0)
set_option maxRecDepth 65536 in
set_option maxHeartbeats 40000000 in
theorem rm2 (l : Launch) (Z : State) (a0 : Array Value) (hw : ∀ d ∈ tables_1, d.before a0 Z = true) (ws : List Jvm.Cond) (o0 : Addr) (x1 : Int32) (c_o0 : Nat → Int32) (n_o0 : Nat) (h0 : Heap) (n0 : Nat) (Z0 : n0 ≤ h0.size) (A_o0 : OAr Z h0 o0 .byte n_o0 (ci c_o0)) (r : Int64) (hr : f2_0 c_o0 n_o0 x1 = some r) :
    MetFree l (⟨"com/example/libtreegram/libtreegram/io/Leb128", "value", "([BI)J"⟩ : MethodName) (head1 (Jvm.Cond.code (⟨"com/example/libtreegram/libtreegram/io/Leb128", "value", "([BI)J"⟩ : MethodName) prog_53_method_5_code 6 (some .long) :: ws) ({ frames := 0, cells := 0, slots := 0, locals := 0 } : Room)) (fun a U => a = #[(.ref o0), (.int x1)] ∧ Z.Warmed39 U.vm ∧ U.heap = h0) (fun _ _ _ _ _ => True) (fun _ U o U' => ∃ v L, o = .returned v ∧ (Qd2 Z h0 n0 o0 x1 c_o0 n_o0 r) v U'.heap L ∧ FrameEnd U o U' L ({ frames := 0, cells := 0, slots := 0, locals := 0 } : Room).cells ({ frames := 0, cells := 0, slots := 0, locals := 0 } : Room).slots) := by
  refine MetFree.of_bodySF (plainFor_of_name pn_2) hisR ?_
  intro p e s m args below meth c s₁ Bd hml0 hP hK
  obtain ⟨rfl, hZ, hh⟩ := hP
  have e0 : s₁.heap = h0 := by rw [← hh, Bd.state]; rfl
  exact OG.cast (ef_2 m o0 x1) (b2_0 Bd.exec hZ hw Bd.bytes hml0 (findClass_of_methodNamed Bd.named) (name_of_methodNamed Bd.named Bd.method).1 Bd.returns Bd.notSynchronized o0 c_o0 n_o0 x1 r (Stand.of_body Bd) e0 (Fr.nil n0) Z0 A_o0 hr)
theorem pd_0 : parseMethodDescriptor "(IIIJJ)B" = some ⟨[.int, .int, .int, .long, .long], some .byte⟩ := by decide +kernel
theorem pd_1 : parseMethodDescriptor "([BI)J" = some ⟨[(.array .byte), .int], some .long⟩ := by decide +kernel
def f0_279 (c_a1 : (Nat → Int32)) (x9 : Int32) (t0 : Int64) : Option (Int32) := (Option.bind (f2_0 c_a1 14 x9) (fun v31 => (if v31 = t0 then (some (1 : Int32)) else (some (0 : Int32)))))
set_option maxRecDepth 65536 in
set_option maxHeartbeats 40000000 in
theorem b0_279 {p : Program} {l : Launch} {e : Env} {s : State} {m : MethodId} {args : Array Value} {below : List Frame} {meth : Method} {c : Code} {Z : State} {a0 : Array Value} {n0 : Nat} (hx : p.tables.exec = Jvm.exec) (hZ : Z.Warmed39 s.vm) (hw : ∀ d ∈ tables_1, d.before a0 Z = true) (hby : c.code = code) (hml : c.maxLocals = 13) (hown : s.vm.findClass "com/example/libtreegram/libtreegram/io/Leb128ValuePinLaw" = some m.cls) (hnm : meth.name = "law") (hret : meth.sig.returnType = some .boolean) (hlk : meth.locks = false)  {T : State} {locs : List Loc} {h : Heap} (a1 : Addr) (c_a1 : Nat → Int32) (d0 : Int64) (d2 : Int32) (d3 : Int32) (d4 : Int64) (d6 : Int64) (d8 : Int32) (x9 : Int32) (t0 : Int64) (r : Int32) (X : Stand p l e room_1 s m args below meth c T locs 1 14) (eT : T.heap = h) (N : Fr n0 locs) (hsz : n0 ≤ h.size) (A_a1 : OAr Z h a1 .byte 14 (ci c_a1)) (g_a1 : n0 ≤ a1) (hr : f0_279 c_a1 x9 t0 = some r) :
    OG p e below s (fun v h L => v = (some (.int r)) ∧ Fr n0 L) 16 128 T (mkF m 279 #[.val (.long d0), .second, .val (.int d2), .val (.int d3), .val (.long d4), .second, .val (.long d6), .second, .val (.int d8), .val (.int x9), .val (.ref a1), .unset, .unset] [(.long t0)]) := by
  have hr : (Option.bind (f2_0 c_a1 14 x9) (fun v31 => (if v31 = t0 then (some (1 : Int32)) else (some (0 : Int32))))) = some r := hr
  refine o_lstore X hx (hb hby at_279) #[.val (.long d0), .second, .val (.int d2), .val (.int d3), .val (.long d4), .second, .val (.long d6), .second, .val (.int d8), .val (.int x9), .val (.ref a1), .val (.long t0), .second] rfl (pc' := 281) rfl ?_
  refine o_aload X hx (hb hby at_281) rfl rfl (pc' := 283) rfl ?_
  refine o_iload X hx (hb hby at_283) rfl (pc' := 285) rfl ?_
  rcases hq31 : f2_0 c_a1 14 x9 with _ | v31
  · rw [hq31] at hr; cases hr
  rw [hq31] at hr
  dsimp only [Option.bind] at hr
  refine o_callS X hx hZ (argsL := [(.ref a1), (.int x9)]) (rest := []) 0 hown eT (hw _ (List.mem_of_getElem? (i := 8) rfl)) (hw _ (List.mem_of_getElem? (i := 9) rfl)) (hw _ (List.mem_of_getElem? (i := 10) rfl)) (hw _ (List.mem_of_getElem? (i := 11) rfl)) (by decide) (rm2 l Z a0 hw [] a1 x9 c_a1 14 h n0 hsz A_a1 v31 hq31) (by decide) (by decide) (by rw [hml]; rfl) (lenOf pd_1 rfl) rfl (Nat.le_refl _) (hb hby at_285) (pc' := 288) rfl (by decide) (by decide) ?_
  rintro _ T31 L31 X31 ⟨rfl, N31, e31⟩
  replace X31 : Stand p l e room_1 s m args below meth c T31 (locs ++ L31) 1 14 := X31
  have M31 := Fr.app N N31
  dsimp only [Option.toList, List.cons_append, List.nil_append]
  refine o_lload X31 hx (hb hby at_288) rfl (pc' := 290) rfl ?_
  refine o_lcmp X31 hx (hb hby at_290) (pc' := 291) rfl ?_
  by_cases hc32 : v31 = t0
  · rw [if_pos hc32] at hr
    refine o_ifNo X31 hx (hb hby at_291) (l_teq hc32).2 (pc' := 294) rfl ?_
    refine o_iconst X31 hx (hb hby at_294) (1 : Int32) rfl (pc' := 295) rfl ?_
    refine o_goto X31 hx (hb hby at_295) (pc' := 299) (by decide) (by decide) ?_
    obtain rfl : (1 : Int32) = r := Option.some.inj hr
    exact o_retN X31 hx hlk (t := .boolean) (by simp) hret (hb hby at_299) rfl ⟨rfl, M31⟩ (by decide) (by decide)
  · rw [if_neg hc32] at hr
    refine o_ifYes X31 hx (hb hby at_291) (l_feq hc32).2 (pc' := 298) (by decide) (by decide) ?_
    refine o_iconst X31 hx (hb hby at_298) (0 : Int32) rfl (pc' := 299) rfl ?_
    obtain rfl : (0 : Int32) = r := Option.some.inj hr
    exact o_retN X31 hx hlk (t := .boolean) (by simp) hret (hb hby at_299) rfl ⟨rfl, M31⟩ (by decide) (by decide)
def f0_23 (x4 : Int64) (x6 : Int64) (x8 : Int32) (x9 : Int32) : Option (Int32) := (if x8 < (9 : Int32) then (f0_279 (li [(nar .byte (f1_0 (0 : Int32) x9 x8 x6 x4)), (nar .byte (f1_0 (1 : Int32) x9 x8 x6 x4)), (nar .byte (f1_0 (2 : Int32) x9 x8 x6 x4)), (nar .byte (f1_0 (3 : Int32) x9 x8 x6 x4)), (nar .byte (f1_0 (4 : Int32) x9 x8 x6 x4)), (nar .byte (f1_0 (5 : Int32) x9 x8 x6 x4)), (nar .byte (f1_0 (6 : Int32) x9 x8 x6 x4)), (nar .byte (f1_0 (7 : Int32) x9 x8 x6 x4)), (nar .byte (f1_0 (8 : Int32) x9 x8 x6 x4)), (nar .byte (f1_0 (9 : Int32) x9 x8 x6 x4)), (nar .byte (f1_0 (10 : Int32) x9 x8 x6 x4)), (nar .byte (f1_0 (11 : Int32) x9 x8 x6 x4)), (nar .byte (f1_0 (12 : Int32) x9 x8 x6 x4)), (nar .byte (f1_0 (13 : Int32) x9 x8 x6 x4))]) x9 (x6 &&& (((1 : Int64) <<< (((7 : Int32) * x8) &&& 0x3f).toInt64) - (1 : Int64)))) else (f0_279 (li [(nar .byte (f1_0 (0 : Int32) x9 x8 x6 x4)), (nar .byte (f1_0 (1 : Int32) x9 x8 x6 x4)), (nar .byte (f1_0 (2 : Int32) x9 x8 x6 x4)), (nar .byte (f1_0 (3 : Int32) x9 x8 x6 x4)), (nar .byte (f1_0 (4 : Int32) x9 x8 x6 x4)), (nar .byte (f1_0 (5 : Int32) x9 x8 x6 x4)), (nar .byte (f1_0 (6 : Int32) x9 x8 x6 x4)), (nar .byte (f1_0 (7 : Int32) x9 x8 x6 x4)), (nar .byte (f1_0 (8 : Int32) x9 x8 x6 x4)), (nar .byte (f1_0 (9 : Int32) x9 x8 x6 x4)), (nar .byte (f1_0 (10 : Int32) x9 x8 x6 x4)), (nar .byte (f1_0 (11 : Int32) x9 x8 x6 x4)), (nar .byte (f1_0 (12 : Int32) x9 x8 x6 x4)), (nar .byte (f1_0 (13 : Int32) x9 x8 x6 x4))]) x9 x6))
set_option maxRecDepth 65536 in
set_option maxHeartbeats 40000000 in
theorem b0_23 {p : Program} {l : Launch} {e : Env} {s : State} {m : MethodId} {args : Array Value} {below : List Frame} {meth : Method} {c : Code} {Z : State} {a0 : Array Value} {n0 : Nat} (hx : p.tables.exec = Jvm.exec) (hZ : Z.Warmed39 s.vm) (hw : ∀ d ∈ tables_1, d.before a0 Z = true) (hby : c.code = code) (hml : c.maxLocals = 13) (hown : s.vm.findClass "com/example/libtreegram/libtreegram/io/Leb128ValuePinLaw" = some m.cls) (hnm : meth.name = "law") (hret : meth.sig.returnType = some .boolean) (hlk : meth.locks = false)  {T : State} {locs : List Loc} {h : Heap} (d0 : Int64) (d2 : Int32) (d3 : Int32) (x4 : Int64) (x6 : Int64) (x8 : Int32) (x9 : Int32) (r : Int32) (X : Stand p l e room_1 s m args below meth c T locs 0 0) (eT : T.heap = h) (N : Fr n0 locs) (hsz : n0 ≤ h.size) (hr : f0_23 x4 x6 x8 x9 = some r) :
    OG p e below s (fun v h L => v = (some (.int r)) ∧ Fr n0 L) 16 128 T (mkF m 23 #[.val (.long d0), .second, .val (.int d2), .val (.int d3), .val (.long x4), .second, .val (.long x6), .second, .val (.int x8), .val (.int x9), .unset, .unset, .unset] []) := by
  have hr : (if x8 < (9 : Int32) then (f0_279 (li [(nar .byte (f1_0 (0 : Int32) x9 x8 x6 x4)), (nar .byte (f1_0 (1 : Int32) x9 x8 x6 x4)), (nar .byte (f1_0 (2 : Int32) x9 x8 x6 x4)), (nar .byte (f1_0 (3 : Int32) x9 x8 x6 x4)), (nar .byte (f1_0 (4 : Int32) x9 x8 x6 x4)), (nar .byte (f1_0 (5 : Int32) x9 x8 x6 x4)), (nar .byte (f1_0 (6 : Int32) x9 x8 x6 x4)), (nar .byte (f1_0 (7 : Int32) x9 x8 x6 x4)), (nar .byte (f1_0 (8 : Int32) x9 x8 x6 x4)), (nar .byte (f1_0 (9 : Int32) x9 x8 x6 x4)), (nar .byte (f1_0 (10 : Int32) x9 x8 x6 x4)), (nar .byte (f1_0 (11 : Int32) x9 x8 x6 x4)), (nar .byte (f1_0 (12 : Int32) x9 x8 x6 x4)), (nar .byte (f1_0 (13 : Int32) x9 x8 x6 x4))]) x9 (x6 &&& (((1 : Int64) <<< (((7 : Int32) * x8) &&& 0x3f).toInt64) - (1 : Int64)))) else (f0_279 (li [(nar .byte (f1_0 (0 : Int32) x9 x8 x6 x4)), (nar .byte (f1_0 (1 : Int32) x9 x8 x6 x4)), (nar .byte (f1_0 (2 : Int32) x9 x8 x6 x4)), (nar .byte (f1_0 (3 : Int32) x9 x8 x6 x4)), (nar .byte (f1_0 (4 : Int32) x9 x8 x6 x4)), (nar .byte (f1_0 (5 : Int32) x9 x8 x6 x4)), (nar .byte (f1_0 (6 : Int32) x9 x8 x6 x4)), (nar .byte (f1_0 (7 : Int32) x9 x8 x6 x4)), (nar .byte (f1_0 (8 : Int32) x9 x8 x6 x4)), (nar .byte (f1_0 (9 : Int32) x9 x8 x6 x4)), (nar .byte (f1_0 (10 : Int32) x9 x8 x6 x4)), (nar .byte (f1_0 (11 : Int32) x9 x8 x6 x4)), (nar .byte (f1_0 (12 : Int32) x9 x8 x6 x4)), (nar .byte (f1_0 (13 : Int32) x9 x8 x6 x4))]) x9 x6)) = some r := hr
  refine o_bipush X hx (hb hby at_23) (14 : Int32) rfl (pc' := 25) rfl ?_
  refine o_newarr X hx hZ eT (hw _ (List.mem_of_getElem? (i := 2) rfl)) (hb hby at_25) (by decide) 14 (by decide) (by decide) (by decide) (by decide) (pc' := 27) rfl ?_
  intro T1 h1 a1 X1 e1 q1 E1 A1
  have g1 : n0 ≤ a1 := Nat.le_trans hsz (Nat.le_of_eq q1.symm)
  have z1 : n0 ≤ h1.size := Nat.le_trans hsz E1.1
  replace A1 : OAr Z h1 a1 .byte 14 (ci (li [(0 : Int32), (0 : Int32), (0 : Int32), (0 : Int32), (0 : Int32), (0 : Int32), (0 : Int32), (0 : Int32), (0 : Int32), (0 : Int32), (0 : Int32), (0 : Int32), (0 : Int32), (0 : Int32)])) := OAr.zeros (k := 14) A1
  refine o_dup X1 hx (hb hby at_27) rfl (pc' := 28) rfl ?_
  refine o_iconst X1 hx (hb hby at_28) (0 : Int32) rfl (pc' := 29) rfl ?_
  refine o_iconst X1 hx (hb hby at_29) (0 : Int32) rfl (pc' := 30) rfl ?_
  refine o_iload X1 hx (hb hby at_30) rfl (pc' := 32) rfl ?_
  refine o_iload X1 hx (hb hby at_32) rfl (pc' := 34) rfl ?_
  refine o_lload X1 hx (hb hby at_34) rfl (pc' := 36) rfl ?_
  refine o_lload X1 hx (hb hby at_36) rfl (pc' := 38) rfl ?_
  refine o_callS X1 hx hZ (argsL := [(.int (0 : Int32)), (.int x9), (.int x8), (.long x6), (.long x4)]) (rest := [(.int (0 : Int32)), (.ref a1), (.ref a1)]) 3 hown e1 (hw _ (List.mem_of_getElem? (i := 3) rfl)) (hw _ (List.mem_of_getElem? (i := 4) rfl)) (hw _ (List.mem_of_getElem? (i := 5) rfl)) (hw _ (List.mem_of_getElem? (i := 6) rfl)) (by decide) (rm1 l Z a0 hw [] (0 : Int32) x9 x8 x6 x4 h1 n0 z1 (f1_0 (0 : Int32) x9 x8 x6 x4) rfl) (by decide) (by decide) (by rw [hml]; rfl) (lenOf pd_0 rfl) rfl (Nat.le_refl _) (hb hby at_38) (pc' := 41) rfl (by decide) (by decide) ?_
  rintro _ T2 L2 X2 ⟨rfl, N2, e2⟩
  replace X2 : Stand p l e room_1 s m args below meth c T2 (locs ++ L2) 1 14 := X2
  have M2 := Fr.app N N2
  dsimp only [Option.toList, List.cons_append, List.nil_append]
  refine o_bastore X2 hx hZ e2 A1 (hb hby at_41) (by decide) (by decide) (pc' := 42) rfl ?_
  intro T3 h3 X3 e3 W3
  have A3 : OAr Z h3 a1 .byte 14 (ci (li [(nar .byte (f1_0 (0 : Int32) x9 x8 x6 x4)), (0 : Int32), (0 : Int32), (0 : Int32), (0 : Int32), (0 : Int32), (0 : Int32), (0 : Int32), (0 : Int32), (0 : Int32), (0 : Int32), (0 : Int32), (0 : Int32), (0 : Int32)])) := OAr.setI (j := 0) (x := (nar .byte (f1_0 (0 : Int32) x9 x8 x6 x4))) W3 A1 (Nat.le_of_ble_eq_true rfl)
  have N3 := Fr.snoc X3 M2 g1
  have z3 : n0 ≤ h3.size := Nat.le_trans z1 (Keep.of_wr W3).1
  refine o_dup X3 hx (hb hby at_42) rfl (pc' := 43) rfl ?_
  refine o_iconst X3 hx (hb hby at_43) (1 : Int32) rfl (pc' := 44) rfl ?_
  refine o_iconst X3 hx (hb hby at_44) (1 : Int32) rfl (pc' := 45) rfl ?_
  refine o_iload X3 hx (hb hby at_45) rfl (pc' := 47) rfl ?_
  refine o_iload X3 hx (hb hby at_47) rfl (pc' := 49) rfl ?_
  refine o_lload X3 hx (hb hby at_49) rfl (pc' := 51) rfl ?_
  refine o_lload X3 hx (hb hby at_51) rfl (pc' := 53) rfl ?_
  refine o_callS X3 hx hZ (argsL := [(.int (1 : Int32)), (.int x9), (.int x8), (.long x6), (.long x4)]) (rest := [(.int (1 : Int32)), (.ref a1), (.ref a1)]) 3 hown e3 (hw _ (List.mem_of_getElem? (i := 3) rfl)) (hw _ (List.mem_of_getElem? (i := 4) rfl)) (hw _ (List.mem_of_getElem? (i := 5) rfl)) (hw _ (List.mem_of_getElem? (i := 6) rfl)) (by decide) (rm1 l Z a0 hw [] (1 : Int32) x9 x8 x6 x4 h3 n0 z3 (f1_0 (1 : Int32) x9 x8 x6 x4) rfl) (by decide) (by decide) (by rw [hml]; rfl) (lenOf pd_0 rfl) rfl (Nat.le_refl _) (hb hby at_53) (pc' := 56) rfl (by decide) (by decide) ?_
  rintro _ T4 L4 X4 ⟨rfl, N4, e4⟩
  replace X4 : Stand p l e room_1 s m args below meth c T4 (((locs ++ L2) ++ [⟨a1, Int32.toNatClampNeg (0 : Int32)⟩]) ++ L4) 1 14 := X4
  have M4 := Fr.app N3 N4
  dsimp only [Option.toList, List.cons_append, List.nil_append]
  refine o_bastore X4 hx hZ e4 A3 (hb hby at_56) (by decide) (by decide) (pc' := 57) rfl ?_
  intro T5 h5 X5 e5 W5
  have A5 : OAr Z h5 a1 .byte 14 (ci (li [(nar .byte (f1_0 (0 : Int32) x9 x8 x6 x4)), (nar .byte (f1_0 (1 : Int32) x9 x8 x6 x4)), (0 : Int32), (0 : Int32), (0 : Int32), (0 : Int32), (0 : Int32), (0 : Int32), (0 : Int32), (0 : Int32), (0 : Int32), (0 : Int32), (0 : Int32), (0 : Int32)])) := OAr.setI (j := 1) (x := (nar .byte (f1_0 (1 : Int32) x9 x8 x6 x4))) W5 A3 (Nat.le_of_ble_eq_true rfl)
  have N5 := Fr.snoc X5 M4 g1
  have z5 : n0 ≤ h5.size := Nat.le_trans z3 (Keep.of_wr W5).1
  refine o_dup X5 hx (hb hby at_57) rfl (pc' := 58) rfl ?_
  refine o_iconst X5 hx (hb hby at_58) (2 : Int32) rfl (pc' := 59) rfl ?_
  refine o_iconst X5 hx (hb hby at_59) (2 : Int32) rfl (pc' := 60) rfl ?_
  refine o_iload X5 hx (hb hby at_60) rfl (pc' := 62) rfl ?_
  refine o_iload X5 hx (hb hby at_62) rfl (pc' := 64) rfl ?_
  refine o_lload X5 hx (hb hby at_64) rfl (pc' := 66) rfl ?_
  refine o_lload X5 hx (hb hby at_66) rfl (pc' := 68) rfl ?_
  refine o_callS X5 hx hZ (argsL := [(.int (2 : Int32)), (.int x9), (.int x8), (.long x6), (.long x4)]) (rest := [(.int (2 : Int32)), (.ref a1), (.ref a1)]) 3 hown e5 (hw _ (List.mem_of_getElem? (i := 3) rfl)) (hw _ (List.mem_of_getElem? (i := 4) rfl)) (hw _ (List.mem_of_getElem? (i := 5) rfl)) (hw _ (List.mem_of_getElem? (i := 6) rfl)) (by decide) (rm1 l Z a0 hw [] (2 : Int32) x9 x8 x6 x4 h5 n0 z5 (f1_0 (2 : Int32) x9 x8 x6 x4) rfl) (by decide) (by decide) (by rw [hml]; rfl) (lenOf pd_0 rfl) rfl (Nat.le_refl _) (hb hby at_68) (pc' := 71) rfl (by decide) (by decide) ?_
  rintro _ T6 L6 X6 ⟨rfl, N6, e6⟩
  replace X6 : Stand p l e room_1 s m args below meth c T6 (((((locs ++ L2) ++ [⟨a1, Int32.toNatClampNeg (0 : Int32)⟩]) ++ L4) ++ [⟨a1, Int32.toNatClampNeg (1 : Int32)⟩]) ++ L6) 1 14 := X6
  have M6 := Fr.app N5 N6
  dsimp only [Option.toList, List.cons_append, List.nil_append]
  refine o_bastore X6 hx hZ e6 A5 (hb hby at_71) (by decide) (by decide) (pc' := 72) rfl ?_
  intro T7 h7 X7 e7 W7
  have A7 : OAr Z h7 a1 .byte 14 (ci (li [(nar .byte (f1_0 (0 : Int32) x9 x8 x6 x4)), (nar .byte (f1_0 (1 : Int32) x9 x8 x6 x4)), (nar .byte (f1_0 (2 : Int32) x9 x8 x6 x4)), (0 : Int32), (0 : Int32), (0 : Int32), (0 : Int32), (0 : Int32), (0 : Int32), (0 : Int32), (0 : Int32), (0 : Int32), (0 : Int32), (0 : Int32)])) := OAr.setI (j := 2) (x := (nar .byte (f1_0 (2 : Int32) x9 x8 x6 x4))) W7 A5 (Nat.le_of_ble_eq_true rfl)
  have N7 := Fr.snoc X7 M6 g1
  have z7 : n0 ≤ h7.size := Nat.le_trans z5 (Keep.of_wr W7).1
  refine o_dup X7 hx (hb hby at_72) rfl (pc' := 73) rfl ?_
  refine o_iconst X7 hx (hb hby at_73) (3 : Int32) rfl (pc' := 74) rfl ?_
  refine o_iconst X7 hx (hb hby at_74) (3 : Int32) rfl (pc' := 75) rfl ?_
  refine o_iload X7 hx (hb hby at_75) rfl (pc' := 77) rfl ?_
  refine o_iload X7 hx (hb hby at_77) rfl (pc' := 79) rfl ?_
  refine o_lload X7 hx (hb hby at_79) rfl (pc' := 81) rfl ?_
  refine o_lload X7 hx (hb hby at_81) rfl (pc' := 83) rfl ?_
  refine o_callS X7 hx hZ (argsL := [(.int (3 : Int32)), (.int x9), (.int x8), (.long x6), (.long x4)]) (rest := [(.int (3 : Int32)), (.ref a1), (.ref a1)]) 3 hown e7 (hw _ (List.mem_of_getElem? (i := 3) rfl)) (hw _ (List.mem_of_getElem? (i := 4) rfl)) (hw _ (List.mem_of_getElem? (i := 5) rfl)) (hw _ (List.mem_of_getElem? (i := 6) rfl)) (by decide) (rm1 l Z a0 hw [] (3 : Int32) x9 x8 x6 x4 h7 n0 z7 (f1_0 (3 : Int32) x9 x8 x6 x4) rfl) (by decide) (by decide) (by rw [hml]; rfl) (lenOf pd_0 rfl) rfl (Nat.le_refl _) (hb hby at_83) (pc' := 86) rfl (by decide) (by decide) ?_
  rintro _ T8 L8 X8 ⟨rfl, N8, e8⟩
  replace X8 : Stand p l e room_1 s m args below meth c T8 (((((((locs ++ L2) ++ [⟨a1, Int32.toNatClampNeg (0 : Int32)⟩]) ++ L4) ++ [⟨a1, Int32.toNatClampNeg (1 : Int32)⟩]) ++ L6) ++ [⟨a1, Int32.toNatClampNeg (2 : Int32)⟩]) ++ L8) 1 14 := X8
  have M8 := Fr.app N7 N8
  dsimp only [Option.toList, List.cons_append, List.nil_append]
  refine o_bastore X8 hx hZ e8 A7 (hb hby at_86) (by decide) (by decide) (pc' := 87) rfl ?_
  intro T9 h9 X9 e9 W9
  have A9 : OAr Z h9 a1 .byte 14 (ci (li [(nar .byte (f1_0 (0 : Int32) x9 x8 x6 x4)), (nar .byte (f1_0 (1 : Int32) x9 x8 x6 x4)), (nar .byte (f1_0 (2 : Int32) x9 x8 x6 x4)), (nar .byte (f1_0 (3 : Int32) x9 x8 x6 x4)), (0 : Int32), (0 : Int32), (0 : Int32), (0 : Int32), (0 : Int32), (0 : Int32), (0 : Int32), (0 : Int32), (0 : Int32), (0 : Int32)])) := OAr.setI (j := 3) (x := (nar .byte (f1_0 (3 : Int32) x9 x8 x6 x4))) W9 A7 (Nat.le_of_ble_eq_true rfl)
  have N9 := Fr.snoc X9 M8 g1
  have z9 : n0 ≤ h9.size := Nat.le_trans z7 (Keep.of_wr W9).1
  refine o_dup X9 hx (hb hby at_87) rfl (pc' := 88) rfl ?_
  refine o_iconst X9 hx (hb hby at_88) (4 : Int32) rfl (pc' := 89) rfl ?_
  refine o_iconst X9 hx (hb hby at_89) (4 : Int32) rfl (pc' := 90) rfl ?_
  refine o_iload X9 hx (hb hby at_90) rfl (pc' := 92) rfl ?_
  refine o_iload X9 hx (hb hby at_92) rfl (pc' := 94) rfl ?_
  refine o_lload X9 hx (hb hby at_94) rfl (pc' := 96) rfl ?_
  refine o_lload X9 hx (hb hby at_96) rfl (pc' := 98) rfl ?_
  refine o_callS X9 hx hZ (argsL := [(.int (4 : Int32)), (.int x9), (.int x8), (.long x6), (.long x4)]) (rest := [(.int (4 : Int32)), (.ref a1), (.ref a1)]) 3 hown e9 (hw _ (List.mem_of_getElem? (i := 3) rfl)) (hw _ (List.mem_of_getElem? (i := 4) rfl)) (hw _ (List.mem_of_getElem? (i := 5) rfl)) (hw _ (List.mem_of_getElem? (i := 6) rfl)) (by decide) (rm1 l Z a0 hw [] (4 : Int32) x9 x8 x6 x4 h9 n0 z9 (f1_0 (4 : Int32) x9 x8 x6 x4) rfl) (by decide) (by decide) (by rw [hml]; rfl) (lenOf pd_0 rfl) rfl (Nat.le_refl _) (hb hby at_98) (pc' := 101) rfl (by decide) (by decide) ?_
  rintro _ T10 L10 X10 ⟨rfl, N10, e10⟩
  replace X10 : Stand p l e room_1 s m args below meth c T10 (((((((((locs ++ L2) ++ [⟨a1, Int32.toNatClampNeg (0 : Int32)⟩]) ++ L4) ++ [⟨a1, Int32.toNatClampNeg (1 : Int32)⟩]) ++ L6) ++ [⟨a1, Int32.toNatClampNeg (2 : Int32)⟩]) ++ L8) ++ [⟨a1, Int32.toNatClampNeg (3 : Int32)⟩]) ++ L10) 1 14 := X10
  have M10 := Fr.app N9 N10
  dsimp only [Option.toList, List.cons_append, List.nil_append]
  refine o_bastore X10 hx hZ e10 A9 (hb hby at_101) (by decide) (by decide) (pc' := 102) rfl ?_
  intro T11 h11 X11 e11 W11
  have A11 : OAr Z h11 a1 .byte 14 (ci (li [(nar .byte (f1_0 (0 : Int32) x9 x8 x6 x4)), (nar .byte (f1_0 (1 : Int32) x9 x8 x6 x4)), (nar .byte (f1_0 (2 : Int32) x9 x8 x6 x4)), (nar .byte (f1_0 (3 : Int32) x9 x8 x6 x4)), (nar .byte (f1_0 (4 : Int32) x9 x8 x6 x4)), (0 : Int32), (0 : Int32), (0 : Int32), (0 : Int32), (0 : Int32), (0 : Int32), (0 : Int32), (0 : Int32), (0 : Int32)])) := OAr.setI (j := 4) (x := (nar .byte (f1_0 (4 : Int32) x9 x8 x6 x4))) W11 A9 (Nat.le_of_ble_eq_true rfl)
  have N11 := Fr.snoc X11 M10 g1
  have z11 : n0 ≤ h11.size := Nat.le_trans z9 (Keep.of_wr W11).1
  refine o_dup X11 hx (hb hby at_102) rfl (pc' := 103) rfl ?_
  refine o_iconst X11 hx (hb hby at_103) (5 : Int32) rfl (pc' := 104) rfl ?_
  refine o_iconst X11 hx (hb hby at_104) (5 : Int32) rfl (pc' := 105) rfl ?_
  refine o_iload X11 hx (hb hby at_105) rfl (pc' := 107) rfl ?_
  refine o_iload X11 hx (hb hby at_107) rfl (pc' := 109) rfl ?_
  refine o_lload X11 hx (hb hby at_109) rfl (pc' := 111) rfl ?_
  refine o_lload X11 hx (hb hby at_111) rfl (pc' := 113) rfl ?_
  refine o_callS X11 hx hZ (argsL := [(.int (5 : Int32)), (.int x9), (.int x8), (.long x6), (.long x4)]) (rest := [(.int (5 : Int32)), (.ref a1), (.ref a1)]) 3 hown e11 (hw _ (List.mem_of_getElem? (i := 3) rfl)) (hw _ (List.mem_of_getElem? (i := 4) rfl)) (hw _ (List.mem_of_getElem? (i := 5) rfl)) (hw _ (List.mem_of_getElem? (i := 6) rfl)) (by decide) (rm1 l Z a0 hw [] (5 : Int32) x9 x8 x6 x4 h11 n0 z11 (f1_0 (5 : Int32) x9 x8 x6 x4) rfl) (by decide) (by decide) (by rw [hml]; rfl) (lenOf pd_0 rfl) rfl (Nat.le_refl _) (hb hby at_113) (pc' := 116) rfl (by decide) (by decide) ?_
  rintro _ T12 L12 X12 ⟨rfl, N12, e12⟩
  replace X12 : Stand p l e room_1 s m args below meth c T12 (((((((((((locs ++ L2) ++ [⟨a1, Int32.toNatClampNeg (0 : Int32)⟩]) ++ L4) ++ [⟨a1, Int32.toNatClampNeg (1 : Int32)⟩]) ++ L6) ++ [⟨a1, Int32.toNatClampNeg (2 : Int32)⟩]) ++ L8) ++ [⟨a1, Int32.toNatClampNeg (3 : Int32)⟩]) ++ L10) ++ [⟨a1, Int32.toNatClampNeg (4 : Int32)⟩]) ++ L12) 1 14 := X12
  have M12 := Fr.app N11 N12
  dsimp only [Option.toList, List.cons_append, List.nil_append]
  refine o_bastore X12 hx hZ e12 A11 (hb hby at_116) (by decide) (by decide) (pc' := 117) rfl ?_
  intro T13 h13 X13 e13 W13
  have A13 : OAr Z h13 a1 .byte 14 (ci (li [(nar .byte (f1_0 (0 : Int32) x9 x8 x6 x4)), (nar .byte (f1_0 (1 : Int32) x9 x8 x6 x4)), (nar .byte (f1_0 (2 : Int32) x9 x8 x6 x4)), (nar .byte (f1_0 (3 : Int32) x9 x8 x6 x4)), (nar .byte (f1_0 (4 : Int32) x9 x8 x6 x4)), (nar .byte (f1_0 (5 : Int32) x9 x8 x6 x4)), (0 : Int32), (0 : Int32), (0 : Int32), (0 : Int32), (0 : Int32), (0 : Int32), (0 : Int32), (0 : Int32)])) := OAr.setI (j := 5) (x := (nar .byte (f1_0 (5 : Int32) x9 x8 x6 x4))) W13 A11 (Nat.le_of_ble_eq_true rfl)
  have N13 := Fr.snoc X13 M12 g1
  have z13 : n0 ≤ h13.size := Nat.le_trans z11 (Keep.of_wr W13).1
  refine o_dup X13 hx (hb hby at_117) rfl (pc' := 118) rfl ?_
  refine o_bipush X13 hx (hb hby at_118) (6 : Int32) rfl (pc' := 120) rfl ?_
  refine o_bipush X13 hx (hb hby at_120) (6 : Int32) rfl (pc' := 122) rfl ?_
  refine o_iload X13 hx (hb hby at_122) rfl (pc' := 124) rfl ?_
  refine o_iload X13 hx (hb hby at_124) rfl (pc' := 126) rfl ?_
  refine o_lload X13 hx (hb hby at_126) rfl (pc' := 128) rfl ?_
  refine o_lload X13 hx (hb hby at_128) rfl (pc' := 130) rfl ?_
  refine o_callS X13 hx hZ (argsL := [(.int (6 : Int32)), (.int x9), (.int x8), (.long x6), (.long x4)]) (rest := [(.int (6 : Int32)), (.ref a1), (.ref a1)]) 3 hown e13 (hw _ (List.mem_of_getElem? (i := 3) rfl)) (hw _ (List.mem_of_getElem? (i := 4) rfl)) (hw _ (List.mem_of_getElem? (i := 5) rfl)) (hw _ (List.mem_of_getElem? (i := 6) rfl)) (by decide) (rm1 l Z a0 hw [] (6 : Int32) x9 x8 x6 x4 h13 n0 z13 (f1_0 (6 : Int32) x9 x8 x6 x4) rfl) (by decide) (by decide) (by rw [hml]; rfl) (lenOf pd_0 rfl) rfl (Nat.le_refl _) (hb hby at_130) (pc' := 133) rfl (by decide) (by decide) ?_
  rintro _ T14 L14 X14 ⟨rfl, N14, e14⟩
  replace X14 : Stand p l e room_1 s m args below meth c T14 (((((((((((((locs ++ L2) ++ [⟨a1, Int32.toNatClampNeg (0 : Int32)⟩]) ++ L4) ++ [⟨a1, Int32.toNatClampNeg (1 : Int32)⟩]) ++ L6) ++ [⟨a1, Int32.toNatClampNeg (2 : Int32)⟩]) ++ L8) ++ [⟨a1, Int32.toNatClampNeg (3 : Int32)⟩]) ++ L10) ++ [⟨a1, Int32.toNatClampNeg (4 : Int32)⟩]) ++ L12) ++ [⟨a1, Int32.toNatClampNeg (5 : Int32)⟩]) ++ L14) 1 14 := X14
  have M14 := Fr.app N13 N14
  dsimp only [Option.toList, List.cons_append, List.nil_append]
  refine o_bastore X14 hx hZ e14 A13 (hb hby at_133) (by decide) (by decide) (pc' := 134) rfl ?_
  intro T15 h15 X15 e15 W15
  have A15 : OAr Z h15 a1 .byte 14 (ci (li [(nar .byte (f1_0 (0 : Int32) x9 x8 x6 x4)), (nar .byte (f1_0 (1 : Int32) x9 x8 x6 x4)), (nar .byte (f1_0 (2 : Int32) x9 x8 x6 x4)), (nar .byte (f1_0 (3 : Int32) x9 x8 x6 x4)), (nar .byte (f1_0 (4 : Int32) x9 x8 x6 x4)), (nar .byte (f1_0 (5 : Int32) x9 x8 x6 x4)), (nar .byte (f1_0 (6 : Int32) x9 x8 x6 x4)), (0 : Int32), (0 : Int32), (0 : Int32), (0 : Int32), (0 : Int32), (0 : Int32), (0 : Int32)])) := OAr.setI (j := 6) (x := (nar .byte (f1_0 (6 : Int32) x9 x8 x6 x4))) W15 A13 (Nat.le_of_ble_eq_true rfl)
  have N15 := Fr.snoc X15 M14 g1
  have z15 : n0 ≤ h15.size := Nat.le_trans z13 (Keep.of_wr W15).1
  refine o_dup X15 hx (hb hby at_134) rfl (pc' := 135) rfl ?_
  refine o_bipush X15 hx (hb hby at_135) (7 : Int32) rfl (pc' := 137) rfl ?_
  refine o_bipush X15 hx (hb hby at_137) (7 : Int32) rfl (pc' := 139) rfl ?_
  refine o_iload X15 hx (hb hby at_139) rfl (pc' := 141) rfl ?_
  refine o_iload X15 hx (hb hby at_141) rfl (pc' := 143) rfl ?_
  refine o_lload X15 hx (hb hby at_143) rfl (pc' := 145) rfl ?_
  refine o_lload X15 hx (hb hby at_145) rfl (pc' := 147) rfl ?_
  refine o_callS X15 hx hZ (argsL := [(.int (7 : Int32)), (.int x9), (.int x8), (.long x6), (.long x4)]) (rest := [(.int (7 : Int32)), (.ref a1), (.ref a1)]) 3 hown e15 (hw _ (List.mem_of_getElem? (i := 3) rfl)) (hw _ (List.mem_of_getElem? (i := 4) rfl)) (hw _ (List.mem_of_getElem? (i := 5) rfl)) (hw _ (List.mem_of_getElem? (i := 6) rfl)) (by decide) (rm1 l Z a0 hw [] (7 : Int32) x9 x8 x6 x4 h15 n0 z15 (f1_0 (7 : Int32) x9 x8 x6 x4) rfl) (by decide) (by decide) (by rw [hml]; rfl) (lenOf pd_0 rfl) rfl (Nat.le_refl _) (hb hby at_147) (pc' := 150) rfl (by decide) (by decide) ?_
  rintro _ T16 L16 X16 ⟨rfl, N16, e16⟩
  replace X16 : Stand p l e room_1 s m args below meth c T16 (((((((((((((((locs ++ L2) ++ [⟨a1, Int32.toNatClampNeg (0 : Int32)⟩]) ++ L4) ++ [⟨a1, Int32.toNatClampNeg (1 : Int32)⟩]) ++ L6) ++ [⟨a1, Int32.toNatClampNeg (2 : Int32)⟩]) ++ L8) ++ [⟨a1, Int32.toNatClampNeg (3 : Int32)⟩]) ++ L10) ++ [⟨a1, Int32.toNatClampNeg (4 : Int32)⟩]) ++ L12) ++ [⟨a1, Int32.toNatClampNeg (5 : Int32)⟩]) ++ L14) ++ [⟨a1, Int32.toNatClampNeg (6 : Int32)⟩]) ++ L16) 1 14 := X16
  have M16 := Fr.app N15 N16
  dsimp only [Option.toList, List.cons_append, List.nil_append]
  refine o_bastore X16 hx hZ e16 A15 (hb hby at_150) (by decide) (by decide) (pc' := 151) rfl ?_
  intro T17 h17 X17 e17 W17
  have A17 : OAr Z h17 a1 .byte 14 (ci (li [(nar .byte (f1_0 (0 : Int32) x9 x8 x6 x4)), (nar .byte (f1_0 (1 : Int32) x9 x8 x6 x4)), (nar .byte (f1_0 (2 : Int32) x9 x8 x6 x4)), (nar .byte (f1_0 (3 : Int32) x9 x8 x6 x4)), (nar .byte (f1_0 (4 : Int32) x9 x8 x6 x4)), (nar .byte (f1_0 (5 : Int32) x9 x8 x6 x4)), (nar .byte (f1_0 (6 : Int32) x9 x8 x6 x4)), (nar .byte (f1_0 (7 : Int32) x9 x8 x6 x4)), (0 : Int32), (0 : Int32), (0 : Int32), (0 : Int32), (0 : Int32), (0 : Int32)])) := OAr.setI (j := 7) (x := (nar .byte (f1_0 (7 : Int32) x9 x8 x6 x4))) W17 A15 (Nat.le_of_ble_eq_true rfl)
  have N17 := Fr.snoc X17 M16 g1
  have z17 : n0 ≤ h17.size := Nat.le_trans z15 (Keep.of_wr W17).1
  refine o_dup X17 hx (hb hby at_151) rfl (pc' := 152) rfl ?_
  refine o_bipush X17 hx (hb hby at_152) (8 : Int32) rfl (pc' := 154) rfl ?_
  refine o_bipush X17 hx (hb hby at_154) (8 : Int32) rfl (pc' := 156) rfl ?_
  refine o_iload X17 hx (hb hby at_156) rfl (pc' := 158) rfl ?_
  refine o_iload X17 hx (hb hby at_158) rfl (pc' := 160) rfl ?_
  refine o_lload X17 hx (hb hby at_160) rfl (pc' := 162) rfl ?_
  refine o_lload X17 hx (hb hby at_162) rfl (pc' := 164) rfl ?_
  refine o_callS X17 hx hZ (argsL := [(.int (8 : Int32)), (.int x9), (.int x8), (.long x6), (.long x4)]) (rest := [(.int (8 : Int32)), (.ref a1), (.ref a1)]) 3 hown e17 (hw _ (List.mem_of_getElem? (i := 3) rfl)) (hw _ (List.mem_of_getElem? (i := 4) rfl)) (hw _ (List.mem_of_getElem? (i := 5) rfl)) (hw _ (List.mem_of_getElem? (i := 6) rfl)) (by decide) (rm1 l Z a0 hw [] (8 : Int32) x9 x8 x6 x4 h17 n0 z17 (f1_0 (8 : Int32) x9 x8 x6 x4) rfl) (by decide) (by decide) (by rw [hml]; rfl) (lenOf pd_0 rfl) rfl (Nat.le_refl _) (hb hby at_164) (pc' := 167) rfl (by decide) (by decide) ?_
  rintro _ T18 L18 X18 ⟨rfl, N18, e18⟩
  replace X18 : Stand p l e room_1 s m args below meth c T18 (((((((((((((((((locs ++ L2) ++ [⟨a1, Int32.toNatClampNeg (0 : Int32)⟩]) ++ L4) ++ [⟨a1, Int32.toNatClampNeg (1 : Int32)⟩]) ++ L6) ++ [⟨a1, Int32.toNatClampNeg (2 : Int32)⟩]) ++ L8) ++ [⟨a1, Int32.toNatClampNeg (3 : Int32)⟩]) ++ L10) ++ [⟨a1, Int32.toNatClampNeg (4 : Int32)⟩]) ++ L12) ++ [⟨a1, Int32.toNatClampNeg (5 : Int32)⟩]) ++ L14) ++ [⟨a1, Int32.toNatClampNeg (6 : Int32)⟩]) ++ L16) ++ [⟨a1, Int32.toNatClampNeg (7 : Int32)⟩]) ++ L18) 1 14 := X18
  have M18 := Fr.app N17 N18
  dsimp only [Option.toList, List.cons_append, List.nil_append]
  refine o_bastore X18 hx hZ e18 A17 (hb hby at_167) (by decide) (by decide) (pc' := 168) rfl ?_
  intro T19 h19 X19 e19 W19
  have A19 : OAr Z h19 a1 .byte 14 (ci (li [(nar .byte (f1_0 (0 : Int32) x9 x8 x6 x4)), (nar .byte (f1_0 (1 : Int32) x9 x8 x6 x4)), (nar .byte (f1_0 (2 : Int32) x9 x8 x6 x4)), (nar .byte (f1_0 (3 : Int32) x9 x8 x6 x4)), (nar .byte (f1_0 (4 : Int32) x9 x8 x6 x4)), (nar .byte (f1_0 (5 : Int32) x9 x8 x6 x4)), (nar .byte (f1_0 (6 : Int32) x9 x8 x6 x4)), (nar .byte (f1_0 (7 : Int32) x9 x8 x6 x4)), (nar .byte (f1_0 (8 : Int32) x9 x8 x6 x4)), (0 : Int32), (0 : Int32), (0 : Int32), (0 : Int32), (0 : Int32)])) := OAr.setI (j := 8) (x := (nar .byte (f1_0 (8 : Int32) x9 x8 x6 x4))) W19 A17 (Nat.le_of_ble_eq_true rfl)
  have N19 := Fr.snoc X19 M18 g1
  have z19 : n0 ≤ h19.size := Nat.le_trans z17 (Keep.of_wr W19).1
  refine o_dup X19 hx (hb hby at_168) rfl (pc' := 169) rfl ?_
  refine o_bipush X19 hx (hb hby at_169) (9 : Int32) rfl (pc' := 171) rfl ?_
  refine o_bipush X19 hx (hb hby at_171) (9 : Int32) rfl (pc' := 173) rfl ?_
  refine o_iload X19 hx (hb hby at_173) rfl (pc' := 175) rfl ?_
  refine o_iload X19 hx (hb hby at_175) rfl (pc' := 177) rfl ?_
  refine o_lload X19 hx (hb hby at_177) rfl (pc' := 179) rfl ?_
  refine o_lload X19 hx (hb hby at_179) rfl (pc' := 181) rfl ?_
  refine o_callS X19 hx hZ (argsL := [(.int (9 : Int32)), (.int x9), (.int x8), (.long x6), (.long x4)]) (rest := [(.int (9 : Int32)), (.ref a1), (.ref a1)]) 3 hown e19 (hw _ (List.mem_of_getElem? (i := 3) rfl)) (hw _ (List.mem_of_getElem? (i := 4) rfl)) (hw _ (List.mem_of_getElem? (i := 5) rfl)) (hw _ (List.mem_of_getElem? (i := 6) rfl)) (by decide) (rm1 l Z a0 hw [] (9 : Int32) x9 x8 x6 x4 h19 n0 z19 (f1_0 (9 : Int32) x9 x8 x6 x4) rfl) (by decide) (by decide) (by rw [hml]; rfl) (lenOf pd_0 rfl) rfl (Nat.le_refl _) (hb hby at_181) (pc' := 184) rfl (by decide) (by decide) ?_
  rintro _ T20 L20 X20 ⟨rfl, N20, e20⟩
  replace X20 : Stand p l e room_1 s m args below meth c T20 (((((((((((((((((((locs ++ L2) ++ [⟨a1, Int32.toNatClampNeg (0 : Int32)⟩]) ++ L4) ++ [⟨a1, Int32.toNatClampNeg (1 : Int32)⟩]) ++ L6) ++ [⟨a1, Int32.toNatClampNeg (2 : Int32)⟩]) ++ L8) ++ [⟨a1, Int32.toNatClampNeg (3 : Int32)⟩]) ++ L10) ++ [⟨a1, Int32.toNatClampNeg (4 : Int32)⟩]) ++ L12) ++ [⟨a1, Int32.toNatClampNeg (5 : Int32)⟩]) ++ L14) ++ [⟨a1, Int32.toNatClampNeg (6 : Int32)⟩]) ++ L16) ++ [⟨a1, Int32.toNatClampNeg (7 : Int32)⟩]) ++ L18) ++ [⟨a1, Int32.toNatClampNeg (8 : Int32)⟩]) ++ L20) 1 14 := X20
  have M20 := Fr.app N19 N20
  dsimp only [Option.toList, List.cons_append, List.nil_append]
  refine o_bastore X20 hx hZ e20 A19 (hb hby at_184) (by decide) (by decide) (pc' := 185) rfl ?_
  intro T21 h21 X21 e21 W21
  have A21 : OAr Z h21 a1 .byte 14 (ci (li [(nar .byte (f1_0 (0 : Int32) x9 x8 x6 x4)), (nar .byte (f1_0 (1 : Int32) x9 x8 x6 x4)), (nar .byte (f1_0 (2 : Int32) x9 x8 x6 x4)), (nar .byte (f1_0 (3 : Int32) x9 x8 x6 x4)), (nar .byte (f1_0 (4 : Int32) x9 x8 x6 x4)), (nar .byte (f1_0 (5 : Int32) x9 x8 x6 x4)), (nar .byte (f1_0 (6 : Int32) x9 x8 x6 x4)), (nar .byte (f1_0 (7 : Int32) x9 x8 x6 x4)), (nar .byte (f1_0 (8 : Int32) x9 x8 x6 x4)), (nar .byte (f1_0 (9 : Int32) x9 x8 x6 x4)), (0 : Int32), (0 : Int32), (0 : Int32), (0 : Int32)])) := OAr.setI (j := 9) (x := (nar .byte (f1_0 (9 : Int32) x9 x8 x6 x4))) W21 A19 (Nat.le_of_ble_eq_true rfl)
  have N21 := Fr.snoc X21 M20 g1
  have z21 : n0 ≤ h21.size := Nat.le_trans z19 (Keep.of_wr W21).1
  refine o_dup X21 hx (hb hby at_185) rfl (pc' := 186) rfl ?_
  refine o_bipush X21 hx (hb hby at_186) (10 : Int32) rfl (pc' := 188) rfl ?_
  refine o_bipush X21 hx (hb hby at_188) (10 : Int32) rfl (pc' := 190) rfl ?_
  refine o_iload X21 hx (hb hby at_190) rfl (pc' := 192) rfl ?_
  refine o_iload X21 hx (hb hby at_192) rfl (pc' := 194) rfl ?_
  refine o_lload X21 hx (hb hby at_194) rfl (pc' := 196) rfl ?_
  refine o_lload X21 hx (hb hby at_196) rfl (pc' := 198) rfl ?_
  refine o_callS X21 hx hZ (argsL := [(.int (10 : Int32)), (.int x9), (.int x8), (.long x6), (.long x4)]) (rest := [(.int (10 : Int32)), (.ref a1), (.ref a1)]) 3 hown e21 (hw _ (List.mem_of_getElem? (i := 3) rfl)) (hw _ (List.mem_of_getElem? (i := 4) rfl)) (hw _ (List.mem_of_getElem? (i := 5) rfl)) (hw _ (List.mem_of_getElem? (i := 6) rfl)) (by decide) (rm1 l Z a0 hw [] (10 : Int32) x9 x8 x6 x4 h21 n0 z21 (f1_0 (10 : Int32) x9 x8 x6 x4) rfl) (by decide) (by decide) (by rw [hml]; rfl) (lenOf pd_0 rfl) rfl (Nat.le_refl _) (hb hby at_198) (pc' := 201) rfl (by decide) (by decide) ?_
  rintro _ T22 L22 X22 ⟨rfl, N22, e22⟩
  replace X22 : Stand p l e room_1 s m args below meth c T22 (((((((((((((((((((((locs ++ L2) ++ [⟨a1, Int32.toNatClampNeg (0 : Int32)⟩]) ++ L4) ++ [⟨a1, Int32.toNatClampNeg (1 : Int32)⟩]) ++ L6) ++ [⟨a1, Int32.toNatClampNeg (2 : Int32)⟩]) ++ L8) ++ [⟨a1, Int32.toNatClampNeg (3 : Int32)⟩]) ++ L10) ++ [⟨a1, Int32.toNatClampNeg (4 : Int32)⟩]) ++ L12) ++ [⟨a1, Int32.toNatClampNeg (5 : Int32)⟩]) ++ L14) ++ [⟨a1, Int32.toNatClampNeg (6 : Int32)⟩]) ++ L16) ++ [⟨a1, Int32.toNatClampNeg (7 : Int32)⟩]) ++ L18) ++ [⟨a1, Int32.toNatClampNeg (8 : Int32)⟩]) ++ L20) ++ [⟨a1, Int32.toNatClampNeg (9 : Int32)⟩]) ++ L22) 1 14 := X22
  have M22 := Fr.app N21 N22
  dsimp only [Option.toList, List.cons_append, List.nil_append]
  refine o_bastore X22 hx hZ e22 A21 (hb hby at_201) (by decide) (by decide) (pc' := 202) rfl ?_
  intro T23 h23 X23 e23 W23
  have A23 : OAr Z h23 a1 .byte 14 (ci (li [(nar .byte (f1_0 (0 : Int32) x9 x8 x6 x4)), (nar .byte (f1_0 (1 : Int32) x9 x8 x6 x4)), (nar .byte (f1_0 (2 : Int32) x9 x8 x6 x4)), (nar .byte (f1_0 (3 : Int32) x9 x8 x6 x4)), (nar .byte (f1_0 (4 : Int32) x9 x8 x6 x4)), (nar .byte (f1_0 (5 : Int32) x9 x8 x6 x4)), (nar .byte (f1_0 (6 : Int32) x9 x8 x6 x4)), (nar .byte (f1_0 (7 : Int32) x9 x8 x6 x4)), (nar .byte (f1_0 (8 : Int32) x9 x8 x6 x4)), (nar .byte (f1_0 (9 : Int32) x9 x8 x6 x4)), (nar .byte (f1_0 (10 : Int32) x9 x8 x6 x4)), (0 : Int32), (0 : Int32), (0 : Int32)])) := OAr.setI (j := 10) (x := (nar .byte (f1_0 (10 : Int32) x9 x8 x6 x4))) W23 A21 (Nat.le_of_ble_eq_true rfl)
  have N23 := Fr.snoc X23 M22 g1
  have z23 : n0 ≤ h23.size := Nat.le_trans z21 (Keep.of_wr W23).1
  refine o_dup X23 hx (hb hby at_202) rfl (pc' := 203) rfl ?_
  refine o_bipush X23 hx (hb hby at_203) (11 : Int32) rfl (pc' := 205) rfl ?_
  refine o_bipush X23 hx (hb hby at_205) (11 : Int32) rfl (pc' := 207) rfl ?_
  refine o_iload X23 hx (hb hby at_207) rfl (pc' := 209) rfl ?_
  refine o_iload X23 hx (hb hby at_209) rfl (pc' := 211) rfl ?_
  refine o_lload X23 hx (hb hby at_211) rfl (pc' := 213) rfl ?_
  refine o_lload X23 hx (hb hby at_213) rfl (pc' := 215) rfl ?_
  refine o_callS X23 hx hZ (argsL := [(.int (11 : Int32)), (.int x9), (.int x8), (.long x6), (.long x4)]) (rest := [(.int (11 : Int32)), (.ref a1), (.ref a1)]) 3 hown e23 (hw _ (List.mem_of_getElem? (i := 3) rfl)) (hw _ (List.mem_of_getElem? (i := 4) rfl)) (hw _ (List.mem_of_getElem? (i := 5) rfl)) (hw _ (List.mem_of_getElem? (i := 6) rfl)) (by decide) (rm1 l Z a0 hw [] (11 : Int32) x9 x8 x6 x4 h23 n0 z23 (f1_0 (11 : Int32) x9 x8 x6 x4) rfl) (by decide) (by decide) (by rw [hml]; rfl) (lenOf pd_0 rfl) rfl (Nat.le_refl _) (hb hby at_215) (pc' := 218) rfl (by decide) (by decide) ?_
  rintro _ T24 L24 X24 ⟨rfl, N24, e24⟩
  replace X24 : Stand p l e room_1 s m args below meth c T24 (((((((((((((((((((((((locs ++ L2) ++ [⟨a1, Int32.toNatClampNeg (0 : Int32)⟩]) ++ L4) ++ [⟨a1, Int32.toNatClampNeg (1 : Int32)⟩]) ++ L6) ++ [⟨a1, Int32.toNatClampNeg (2 : Int32)⟩]) ++ L8) ++ [⟨a1, Int32.toNatClampNeg (3 : Int32)⟩]) ++ L10) ++ [⟨a1, Int32.toNatClampNeg (4 : Int32)⟩]) ++ L12) ++ [⟨a1, Int32.toNatClampNeg (5 : Int32)⟩]) ++ L14) ++ [⟨a1, Int32.toNatClampNeg (6 : Int32)⟩]) ++ L16) ++ [⟨a1, Int32.toNatClampNeg (7 : Int32)⟩]) ++ L18) ++ [⟨a1, Int32.toNatClampNeg (8 : Int32)⟩]) ++ L20) ++ [⟨a1, Int32.toNatClampNeg (9 : Int32)⟩]) ++ L22) ++ [⟨a1, Int32.toNatClampNeg (10 : Int32)⟩]) ++ L24) 1 14 := X24
  have M24 := Fr.app N23 N24
  dsimp only [Option.toList, List.cons_append, List.nil_append]
  refine o_bastore X24 hx hZ e24 A23 (hb hby at_218) (by decide) (by decide) (pc' := 219) rfl ?_
  intro T25 h25 X25 e25 W25
  have A25 : OAr Z h25 a1 .byte 14 (ci (li [(nar .byte (f1_0 (0 : Int32) x9 x8 x6 x4)), (nar .byte (f1_0 (1 : Int32) x9 x8 x6 x4)), (nar .byte (f1_0 (2 : Int32) x9 x8 x6 x4)), (nar .byte (f1_0 (3 : Int32) x9 x8 x6 x4)), (nar .byte (f1_0 (4 : Int32) x9 x8 x6 x4)), (nar .byte (f1_0 (5 : Int32) x9 x8 x6 x4)), (nar .byte (f1_0 (6 : Int32) x9 x8 x6 x4)), (nar .byte (f1_0 (7 : Int32) x9 x8 x6 x4)), (nar .byte (f1_0 (8 : Int32) x9 x8 x6 x4)), (nar .byte (f1_0 (9 : Int32) x9 x8 x6 x4)), (nar .byte (f1_0 (10 : Int32) x9 x8 x6 x4)), (nar .byte (f1_0 (11 : Int32) x9 x8 x6 x4)), (0 : Int32), (0 : Int32)])) := OAr.setI (j := 11) (x := (nar .byte (f1_0 (11 : Int32) x9 x8 x6 x4))) W25 A23 (Nat.le_of_ble_eq_true rfl)
  have N25 := Fr.snoc X25 M24 g1
  have z25 : n0 ≤ h25.size := Nat.le_trans z23 (Keep.of_wr W25).1
  refine o_dup X25 hx (hb hby at_219) rfl (pc' := 220) rfl ?_
  refine o_bipush X25 hx (hb hby at_220) (12 : Int32) rfl (pc' := 222) rfl ?_
  refine o_bipush X25 hx (hb hby at_222) (12 : Int32) rfl (pc' := 224) rfl ?_
  refine o_iload X25 hx (hb hby at_224) rfl (pc' := 226) rfl ?_
  refine o_iload X25 hx (hb hby at_226) rfl (pc' := 228) rfl ?_
  refine o_lload X25 hx (hb hby at_228) rfl (pc' := 230) rfl ?_
  refine o_lload X25 hx (hb hby at_230) rfl (pc' := 232) rfl ?_
  refine o_callS X25 hx hZ (argsL := [(.int (12 : Int32)), (.int x9), (.int x8), (.long x6), (.long x4)]) (rest := [(.int (12 : Int32)), (.ref a1), (.ref a1)]) 3 hown e25 (hw _ (List.mem_of_getElem? (i := 3) rfl)) (hw _ (List.mem_of_getElem? (i := 4) rfl)) (hw _ (List.mem_of_getElem? (i := 5) rfl)) (hw _ (List.mem_of_getElem? (i := 6) rfl)) (by decide) (rm1 l Z a0 hw [] (12 : Int32) x9 x8 x6 x4 h25 n0 z25 (f1_0 (12 : Int32) x9 x8 x6 x4) rfl) (by decide) (by decide) (by rw [hml]; rfl) (lenOf pd_0 rfl) rfl (Nat.le_refl _) (hb hby at_232) (pc' := 235) rfl (by decide) (by decide) ?_
  rintro _ T26 L26 X26 ⟨rfl, N26, e26⟩
  replace X26 : Stand p l e room_1 s m args below meth c T26 (((((((((((((((((((((((((locs ++ L2) ++ [⟨a1, Int32.toNatClampNeg (0 : Int32)⟩]) ++ L4) ++ [⟨a1, Int32.toNatClampNeg (1 : Int32)⟩]) ++ L6) ++ [⟨a1, Int32.toNatClampNeg (2 : Int32)⟩]) ++ L8) ++ [⟨a1, Int32.toNatClampNeg (3 : Int32)⟩]) ++ L10) ++ [⟨a1, Int32.toNatClampNeg (4 : Int32)⟩]) ++ L12) ++ [⟨a1, Int32.toNatClampNeg (5 : Int32)⟩]) ++ L14) ++ [⟨a1, Int32.toNatClampNeg (6 : Int32)⟩]) ++ L16) ++ [⟨a1, Int32.toNatClampNeg (7 : Int32)⟩]) ++ L18) ++ [⟨a1, Int32.toNatClampNeg (8 : Int32)⟩]) ++ L20) ++ [⟨a1, Int32.toNatClampNeg (9 : Int32)⟩]) ++ L22) ++ [⟨a1, Int32.toNatClampNeg (10 : Int32)⟩]) ++ L24) ++ [⟨a1, Int32.toNatClampNeg (11 : Int32)⟩]) ++ L26) 1 14 := X26
  have M26 := Fr.app N25 N26
  dsimp only [Option.toList, List.cons_append, List.nil_append]
  refine o_bastore X26 hx hZ e26 A25 (hb hby at_235) (by decide) (by decide) (pc' := 236) rfl ?_
  intro T27 h27 X27 e27 W27
  have A27 : OAr Z h27 a1 .byte 14 (ci (li [(nar .byte (f1_0 (0 : Int32) x9 x8 x6 x4)), (nar .byte (f1_0 (1 : Int32) x9 x8 x6 x4)), (nar .byte (f1_0 (2 : Int32) x9 x8 x6 x4)), (nar .byte (f1_0 (3 : Int32) x9 x8 x6 x4)), (nar .byte (f1_0 (4 : Int32) x9 x8 x6 x4)), (nar .byte (f1_0 (5 : Int32) x9 x8 x6 x4)), (nar .byte (f1_0 (6 : Int32) x9 x8 x6 x4)), (nar .byte (f1_0 (7 : Int32) x9 x8 x6 x4)), (nar .byte (f1_0 (8 : Int32) x9 x8 x6 x4)), (nar .byte (f1_0 (9 : Int32) x9 x8 x6 x4)), (nar .byte (f1_0 (10 : Int32) x9 x8 x6 x4)), (nar .byte (f1_0 (11 : Int32) x9 x8 x6 x4)), (nar .byte (f1_0 (12 : Int32) x9 x8 x6 x4)), (0 : Int32)])) := OAr.setI (j := 12) (x := (nar .byte (f1_0 (12 : Int32) x9 x8 x6 x4))) W27 A25 (Nat.le_of_ble_eq_true rfl)
  have N27 := Fr.snoc X27 M26 g1
  have z27 : n0 ≤ h27.size := Nat.le_trans z25 (Keep.of_wr W27).1
  refine o_dup X27 hx (hb hby at_236) rfl (pc' := 237) rfl ?_
  refine o_bipush X27 hx (hb hby at_237) (13 : Int32) rfl (pc' := 239) rfl ?_
  refine o_bipush X27 hx (hb hby at_239) (13 : Int32) rfl (pc' := 241) rfl ?_
  refine o_iload X27 hx (hb hby at_241) rfl (pc' := 243) rfl ?_
  refine o_iload X27 hx (hb hby at_243) rfl (pc' := 245) rfl ?_
  refine o_lload X27 hx (hb hby at_245) rfl (pc' := 247) rfl ?_
  refine o_lload X27 hx (hb hby at_247) rfl (pc' := 249) rfl ?_
  refine o_callS X27 hx hZ (argsL := [(.int (13 : Int32)), (.int x9), (.int x8), (.long x6), (.long x4)]) (rest := [(.int (13 : Int32)), (.ref a1), (.ref a1)]) 3 hown e27 (hw _ (List.mem_of_getElem? (i := 3) rfl)) (hw _ (List.mem_of_getElem? (i := 4) rfl)) (hw _ (List.mem_of_getElem? (i := 5) rfl)) (hw _ (List.mem_of_getElem? (i := 6) rfl)) (by decide) (rm1 l Z a0 hw [] (13 : Int32) x9 x8 x6 x4 h27 n0 z27 (f1_0 (13 : Int32) x9 x8 x6 x4) rfl) (by decide) (by decide) (by rw [hml]; rfl) (lenOf pd_0 rfl) rfl (Nat.le_refl _) (hb hby at_249) (pc' := 252) rfl (by decide) (by decide) ?_
  rintro _ T28 L28 X28 ⟨rfl, N28, e28⟩
  replace X28 : Stand p l e room_1 s m args below meth c T28 (((((((((((((((((((((((((((locs ++ L2) ++ [⟨a1, Int32.toNatClampNeg (0 : Int32)⟩]) ++ L4) ++ [⟨a1, Int32.toNatClampNeg (1 : Int32)⟩]) ++ L6) ++ [⟨a1, Int32.toNatClampNeg (2 : Int32)⟩]) ++ L8) ++ [⟨a1, Int32.toNatClampNeg (3 : Int32)⟩]) ++ L10) ++ [⟨a1, Int32.toNatClampNeg (4 : Int32)⟩]) ++ L12) ++ [⟨a1, Int32.toNatClampNeg (5 : Int32)⟩]) ++ L14) ++ [⟨a1, Int32.toNatClampNeg (6 : Int32)⟩]) ++ L16) ++ [⟨a1, Int32.toNatClampNeg (7 : Int32)⟩]) ++ L18) ++ [⟨a1, Int32.toNatClampNeg (8 : Int32)⟩]) ++ L20) ++ [⟨a1, Int32.toNatClampNeg (9 : Int32)⟩]) ++ L22) ++ [⟨a1, Int32.toNatClampNeg (10 : Int32)⟩]) ++ L24) ++ [⟨a1, Int32.toNatClampNeg (11 : Int32)⟩]) ++ L26) ++ [⟨a1, Int32.toNatClampNeg (12 : Int32)⟩]) ++ L28) 1 14 := X28
  have M28 := Fr.app N27 N28
  dsimp only [Option.toList, List.cons_append, List.nil_append]
  refine o_bastore X28 hx hZ e28 A27 (hb hby at_252) (by decide) (by decide) (pc' := 253) rfl ?_
  intro T29 h29 X29 e29 W29
  have A29 : OAr Z h29 a1 .byte 14 (ci (li [(nar .byte (f1_0 (0 : Int32) x9 x8 x6 x4)), (nar .byte (f1_0 (1 : Int32) x9 x8 x6 x4)), (nar .byte (f1_0 (2 : Int32) x9 x8 x6 x4)), (nar .byte (f1_0 (3 : Int32) x9 x8 x6 x4)), (nar .byte (f1_0 (4 : Int32) x9 x8 x6 x4)), (nar .byte (f1_0 (5 : Int32) x9 x8 x6 x4)), (nar .byte (f1_0 (6 : Int32) x9 x8 x6 x4)), (nar .byte (f1_0 (7 : Int32) x9 x8 x6 x4)), (nar .byte (f1_0 (8 : Int32) x9 x8 x6 x4)), (nar .byte (f1_0 (9 : Int32) x9 x8 x6 x4)), (nar .byte (f1_0 (10 : Int32) x9 x8 x6 x4)), (nar .byte (f1_0 (11 : Int32) x9 x8 x6 x4)), (nar .byte (f1_0 (12 : Int32) x9 x8 x6 x4)), (nar .byte (f1_0 (13 : Int32) x9 x8 x6 x4))])) := OAr.setI (j := 13) (x := (nar .byte (f1_0 (13 : Int32) x9 x8 x6 x4))) W29 A27 (Nat.le_of_ble_eq_true rfl)
  have N29 := Fr.snoc X29 M28 g1
  have z29 : n0 ≤ h29.size := Nat.le_trans z27 (Keep.of_wr W29).1
  refine o_astore X29 hx (hb hby at_253) rfl #[.val (.long d0), .second, .val (.int d2), .val (.int d3), .val (.long x4), .second, .val (.long x6), .second, .val (.int x8), .val (.int x9), .val (.ref a1), .unset, .unset] rfl (pc' := 255) rfl ?_
  refine o_iload X29 hx (hb hby at_255) rfl (pc' := 257) rfl ?_
  refine o_bipush X29 hx (hb hby at_257) (9 : Int32) rfl (pc' := 259) rfl ?_
  by_cases hc30 : x8 < (9 : Int32)
  · rw [if_pos hc30] at hr
    refine o_icmpYes X29 hx (hb hby at_259) (c_tlt hc30).1 (pc' := 267) (by decide) (by decide) ?_
    refine o_lload X29 hx (hb hby at_267) rfl (pc' := 269) rfl ?_
    refine o_lconst X29 hx (hb hby at_269) (1 : Int64) rfl (pc' := 270) rfl ?_
    refine o_bipush X29 hx (hb hby at_270) (7 : Int32) rfl (pc' := 272) rfl ?_
    refine o_iload X29 hx (hb hby at_272) rfl (pc' := 274) rfl ?_
    refine o_imul X29 hx (hb hby at_274) (pc' := 275) rfl ?_
    refine o_lshl X29 hx (hb hby at_275) (pc' := 276) rfl ?_
    refine o_lconst X29 hx (hb hby at_276) (1 : Int64) rfl (pc' := 277) rfl ?_
    refine o_lsub X29 hx (hb hby at_277) (pc' := 278) rfl ?_
    refine o_land X29 hx (hb hby at_278) (pc' := 279) rfl ?_
    exact b0_279 hx hZ hw hby hml hown hnm hret hlk a1 (li [(nar .byte (f1_0 (0 : Int32) x9 x8 x6 x4)), (nar .byte (f1_0 (1 : Int32) x9 x8 x6 x4)), (nar .byte (f1_0 (2 : Int32) x9 x8 x6 x4)), (nar .byte (f1_0 (3 : Int32) x9 x8 x6 x4)), (nar .byte (f1_0 (4 : Int32) x9 x8 x6 x4)), (nar .byte (f1_0 (5 : Int32) x9 x8 x6 x4)), (nar .byte (f1_0 (6 : Int32) x9 x8 x6 x4)), (nar .byte (f1_0 (7 : Int32) x9 x8 x6 x4)), (nar .byte (f1_0 (8 : Int32) x9 x8 x6 x4)), (nar .byte (f1_0 (9 : Int32) x9 x8 x6 x4)), (nar .byte (f1_0 (10 : Int32) x9 x8 x6 x4)), (nar .byte (f1_0 (11 : Int32) x9 x8 x6 x4)), (nar .byte (f1_0 (12 : Int32) x9 x8 x6 x4)), (nar .byte (f1_0 (13 : Int32) x9 x8 x6 x4))]) d0 d2 d3 x4 x6 x8 x9 (x6 &&& (((1 : Int64) <<< (((7 : Int32) * x8) &&& 0x3f).toInt64) - (1 : Int64))) r X29 e29 N29 z29 A29 g1 hr
  · rw [if_neg hc30] at hr
    refine o_icmpNo X29 hx (hb hby at_259) (c_flt hc30).1 (pc' := 262) rfl ?_
    refine o_lload X29 hx (hb hby at_262) rfl (pc' := 264) rfl ?_
    refine o_goto X29 hx (hb hby at_264) (pc' := 279) (by decide) (by decide) ?_
    exact b0_279 hx hZ hw hby hml hown hnm hret hlk a1 (li [(nar .byte (f1_0 (0 : Int32) x9 x8 x6 x4)), (nar .byte (f1_0 (1 : Int32) x9 x8 x6 x4)), (nar .byte (f1_0 (2 : Int32) x9 x8 x6 x4)), (nar .byte (f1_0 (3 : Int32) x9 x8 x6 x4)), (nar .byte (f1_0 (4 : Int32) x9 x8 x6 x4)), (nar .byte (f1_0 (5 : Int32) x9 x8 x6 x4)), (nar .byte (f1_0 (6 : Int32) x9 x8 x6 x4)), (nar .byte (f1_0 (7 : Int32) x9 x8 x6 x4)), (nar .byte (f1_0 (8 : Int32) x9 x8 x6 x4)), (nar .byte (f1_0 (9 : Int32) x9 x8 x6 x4)), (nar .byte (f1_0 (10 : Int32) x9 x8 x6 x4)), (nar .byte (f1_0 (11 : Int32) x9 x8 x6 x4)), (nar .byte (f1_0 (12 : Int32) x9 x8 x6 x4)), (nar .byte (f1_0 (13 : Int32) x9 x8 x6 x4))]) d0 d2 d3 x4 x6 x8 x9 x6 r X29 e29 N29 z29 A29 g1 hr
def f0_0 (x0 : Int64) (x2 : Int32) (x3 : Int32) (x4 : Int64) : Option (Int32) := (f0_23 x4 (x0 &&& (9223372036854775807 : Int64)) (((x2 &&& (2147483647 : Int32)) % (10 : Int32)) + (1 : Int32)) (x3 &&& (3 : Int32)))
set_option maxRecDepth 65536 in
set_option maxHeartbeats 40000000 in
theorem b0_0 {p : Program} {l : Launch} {e : Env} {s : State} {m : MethodId} {args : Array Value} {below : List Frame} {meth : Method} {c : Code} {Z : State} {a0 : Array Value} {n0 : Nat} (hx : p.tables.exec = Jvm.exec) (hZ : Z.Warmed39 s.vm) (hw : ∀ d ∈ tables_1, d.before a0 Z = true) (hby : c.code = code) (hml : c.maxLocals = 13) (hown : s.vm.findClass "com/example/libtreegram/libtreegram/io/Leb128ValuePinLaw" = some m.cls) (hnm : meth.name = "law") (hret : meth.sig.returnType = some .boolean) (hlk : meth.locks = false)  {T : State} {locs : List Loc} {h : Heap} (x0 : Int64) (x2 : Int32) (x3 : Int32) (x4 : Int64) (r : Int32) (X : Stand p l e room_1 s m args below meth c T locs 0 0) (eT : T.heap = h) (N : Fr n0 locs) (hsz : n0 ≤ h.size) (hr : f0_0 x0 x2 x3 x4 = some r) :
    OG p e below s (fun v h L => v = (some (.int r)) ∧ Fr n0 L) 16 128 T (mkF m 0 #[.val (.long x0), .second, .val (.int x2), .val (.int x3), .val (.long x4), .second, .unset, .unset, .unset, .unset, .unset, .unset, .unset] []) := by
  have hr : (f0_23 x4 (x0 &&& (9223372036854775807 : Int64)) (((x2 &&& (2147483647 : Int32)) % (10 : Int32)) + (1 : Int32)) (x3 &&& (3 : Int32))) = some r := hr
  refine o_lload_n X hx (hb hby at_0) rfl (pc' := 1) rfl ?_
  refine o_ldc2Long X hx hZ hown (hb hby at_1) (hw _ (List.mem_of_getElem? (i := 0) rfl)) (pc' := 4) rfl ?_
  refine o_land X hx (hb hby at_4) (pc' := 5) rfl ?_
  refine o_lstore X hx (hb hby at_5) #[.val (.long x0), .second, .val (.int x2), .val (.int x3), .val (.long x4), .second, .val (.long (x0 &&& (9223372036854775807 : Int64))), .second, .unset, .unset, .unset, .unset, .unset] rfl (pc' := 7) rfl ?_
  refine o_iload_n X hx (hb hby at_7) rfl (pc' := 8) rfl ?_
  refine o_ldcInt X hx hZ hown (hb hby at_8) (hw _ (List.mem_of_getElem? (i := 1) rfl)) (pc' := 10) rfl ?_
  refine o_iand X hx (hb hby at_10) (pc' := 11) rfl ?_
  refine o_bipush X hx (hb hby at_11) (10 : Int32) rfl (pc' := 13) rfl ?_
  refine o_irem X hx (hb hby at_13) (by decide) (pc' := 14) rfl ?_
  refine o_iconst X hx (hb hby at_14) (1 : Int32) rfl (pc' := 15) rfl ?_
  refine o_iadd X hx (hb hby at_15) (pc' := 16) rfl ?_
  refine o_istore X hx (hb hby at_16) #[.val (.long x0), .second, .val (.int x2), .val (.int x3), .val (.long x4), .second, .val (.long (x0 &&& (9223372036854775807 : Int64))), .second, .val (.int (((x2 &&& (2147483647 : Int32)) % (10 : Int32)) + (1 : Int32))), .unset, .unset, .unset, .unset] rfl (pc' := 18) rfl ?_
  refine o_iload_n X hx (hb hby at_18) rfl (pc' := 19) rfl ?_
  refine o_iconst X hx (hb hby at_19) (3 : Int32) rfl (pc' := 20) rfl ?_
  refine o_iand X hx (hb hby at_20) (pc' := 21) rfl ?_
  refine o_istore X hx (hb hby at_21) #[.val (.long x0), .second, .val (.int x2), .val (.int x3), .val (.long x4), .second, .val (.long (x0 &&& (9223372036854775807 : Int64))), .second, .val (.int (((x2 &&& (2147483647 : Int32)) % (10 : Int32)) + (1 : Int32))), .val (.int (x3 &&& (3 : Int32))), .unset, .unset, .unset] rfl (pc' := 23) rfl ?_
  exact b0_23 hx hZ hw hby hml hown hnm hret hlk x0 x2 x3 x4 (x0 &&& (9223372036854775807 : Int64)) (((x2 &&& (2147483647 : Int32)) % (10 : Int32)) + (1 : Int32)) (x3 &&& (3 : Int32)) r X eT N hsz hr
theorem own_iand (x m : Int32) (k : Nat) (hm : m.toBitVec.toNat = 2 ^ k - 1) (hk : k < 31) : (x &&& m).toInt = ((x.toBitVec.toNat % 2 ^ k : Nat) : Int) := by
  have e : (x &&& m).toBitVec.toNat = x.toBitVec.toNat % 2 ^ k := by
    rw [Int32.toBitVec_and, BitVec.toNat_and, hm, Nat.and_two_pow_sub_one_eq_mod]
  have h1 : 2 ^ k ≤ 2 ^ 30 := Nat.pow_le_pow_right (by omega) (by omega)
  have h2 := Nat.mod_lt x.toBitVec.toNat (Nat.pow_pos (n := k) (show 0 < 2 by omega))
  rw [← Int32.toInt_toBitVec, BitVec.toInt_eq_toNat_cond, if_pos (by omega), e]
theorem own_ei (x y : Int32) : x = y ↔ x.toInt = y.toInt := by rw [Int32.toInt_inj]
theorem own_toNat32 {x : Int32} (h : 0 ≤ x.toInt) : x.toInt = x.toBitVec.toNat := by
  rw [← Int32.toInt_toBitVec] at *
  rw [BitVec.toInt_eq_toNat_cond] at *
  have := x.toBitVec.isLt
  split at h <;> rename_i q
  · rw [if_pos q]
  · omega
theorem own_nn (x : Int32) : 0 ≤ (x &&& 2147483647).toInt := by
  have : (x &&& (2147483647 : Int32)).toBitVec.msb = false := by
    rw [Int32.toBitVec_and, BitVec.msb_and, show (2147483647 : Int32).toBitVec.msb = false by decide, Bool.and_false]
  rw [← Int32.toInt_toBitVec, BitVec.toInt_eq_msb_cond, this]; simp
theorem own_max (x : Int64) : 0 ≤ (x &&& (9223372036854775807 : Int64)).toInt := by
  have : (x &&& (9223372036854775807 : Int64)).toBitVec.msb = false := by
    rw [Int64.toBitVec_and, BitVec.msb_and, show (9223372036854775807 : Int64).toBitVec.msb = false by decide, Bool.and_false]
  rw [← Int64.toInt_toBitVec, BitVec.toInt_eq_msb_cond, this]; simp
theorem own_oi {a : Nat} (h : a < 2 ^ 31) : (Int32.ofNat a).toInt = a := Int32.toInt_ofNat_of_lt (by omega)
theorem own_lt {a b : Nat} (ha : a < 2 ^ 31) (hb : b < 2 ^ 31) : Int32.ofNat a < Int32.ofNat b ↔ a < b := by
  rw [Int32.lt_iff_toInt_lt, own_oi ha, own_oi hb]; omega
theorem own_clamp {a : Nat} (h : a < 2 ^ 31) : Int32.toNatClampNeg (Int32.ofNat a) = a := by
  show (Int32.ofNat a).toInt.toNat = a
  rw [own_oi h]; omega
theorem own_nneg {a : Nat} (h : a < 2 ^ 31) : ¬ Int32.ofNat a < 0 := by
  rw [Int32.lt_iff_toInt_lt, own_oi h, show (0 : Int32).toInt = 0 from rfl]; omega
/-- a stored byte: its digit d, and whether more follow -/
def bv (d : Nat) (m : Bool) : Int32 := nar .byte (nar .byte ((Int32.ofNat d ||| (if m then 128 else 0)).toInt8.toInt32))
theorem own_bv : ∀ d : Fin 128, ∀ m : Bool, (bv d.val m &&& 127) = Int32.ofNat d.val ∧ ((bv d.val m &&& 128 = 0) ↔ m = false) ∧ ((bv d.val m < 0) ↔ m = true) ∧ (m = false → bv d.val m = Int32.ofNat d.val) := by decide +kernel
/-- the i-th digit -/
def dg (n : Int64) (i : Nat) : Nat := n.toBitVec.toNat / 2 ^ (7 * i) % 128
theorem own_sh : ∀ i : Fin 10, (((7 : Int32) * Int32.ofNat i.val) &&& 0x3f).toInt64.toUInt64.toNat % 64 = 7 * i.val ∧ (Int32.ofNat (7 * i.val) &&& 0x3f).toInt64 = Int64.ofNat (7 * i.val) := by decide +kernel
theorem own_digit (n : Int64) (i : Nat) (hi : i < 10) : ((((n.toUInt64 >>> (((7 : Int32) * Int32.ofNat i) &&& 0x3f).toInt64.toUInt64).toInt64) &&& (127 : Int64)).toInt32) = Int32.ofNat (dg n i) := by
  have h := (own_sh ⟨i, hi⟩).1
  have e : (((n.toUInt64 >>> (((7 : Int32) * Int32.ofNat i) &&& 0x3f).toInt64.toUInt64).toInt64) &&& (127 : Int64)).toBitVec.toNat = dg n i := by
    rw [Int64.toBitVec_and, BitVec.toNat_and, show (127 : Int64).toBitVec.toNat = 2 ^ 7 - 1 from rfl, Nat.and_two_pow_sub_one_eq_mod]
    show (n.toUInt64 >>> _).toNat % 2 ^ 7 = _
    rw [UInt64.toNat_shiftRight, h, Nat.shiftRight_eq_div_pow]; rfl
  have hd : dg n i < 128 := Nat.mod_lt _ (by omega)
  generalize (((n.toUInt64 >>> (((7 : Int32) * Int32.ofNat i) &&& 0x3f).toInt64.toUInt64).toInt64) &&& (127 : Int64)) = u at *
  rw [← Int32.toBitVec_inj, ← BitVec.toNat_inj]
  show (u.toBitVec.signExtend 32).toNat = (BitVec.ofNat 32 (dg n i)).toNat
  rw [BitVec.signExtend_eq_setWidth_of_le _ (by omega), BitVec.toNat_setWidth, BitVec.toNat_ofNat, e]
theorem own_sub (s i : Nat) : Int32.ofNat (s + i) - Int32.ofNat s = Int32.ofNat i := by
  rw [Int32.ofNat_add]
  rw [Int32.add_comm, Int32.add_sub_cancel]
theorem own_at (n junk : Int64) (s i kk : Nat) (hi : i < kk) (hk : kk ≤ 10) (hk1 : 1 ≤ kk) : nar .byte (f1_0 (Int32.ofNat (s + i)) (Int32.ofNat s) (Int32.ofNat kk) n junk) = bv (dg n i) (decide (i < kk - 1)) := by
  unfold f1_0
  rw [own_sub, show (0 : Int32) = Int32.ofNat 0 from rfl]
  rw [if_neg (by rw [own_lt (by omega) (by omega)]; omega), if_pos (by rw [own_lt (by omega) (by omega)]; exact hi)]
  unfold f1_43
  rw [own_digit n i (by omega)]
  have : Int32.ofNat kk - 1 = Int32.ofNat (kk - 1) := by
    have : kk = (kk - 1) + 1 := by omega
    rw [this, Int32.ofNat_add, show Int32.ofNat 1 = 1 from rfl, Int32.add_sub_cancel]; simp
  rw [this]
  unfold f1_58 bv
  by_cases q : i < kk - 1
  · rw [if_pos (by rw [own_lt (by omega) (by omega)]; exact q)]; simp [q]
  · rw [if_neg (by rw [own_lt (by omega) (by omega)]; exact q)]; simp [q]
/-- what has been read behind i digits -/
def acc (n : Int64) (i : Nat) : Int64 := Int64.ofNat (n.toBitVec.toNat % 2 ^ (7 * i))
theorem own_bvnat {x y : Int64} (h : x.toBitVec.toNat = y.toBitVec.toNat) : x = y := by
  rw [← Int64.toBitVec_inj, ← BitVec.toNat_inj, h]
theorem own_i2ld (d : Nat) (h : d < 128) : (Int32.ofNat d).toInt64 = Int64.ofNat d := by
  rw [← Int64.toInt_inj]
  have e : (Int32.ofNat d).toInt64.toInt = (Int32.ofNat d).toInt := by simp
  rw [e, own_oi (by omega), Int64.toInt_ofNat_of_lt (by omega)]
theorem own_acc (n : Int64) (hn : 0 ≤ n.toInt) (i : Nat) (hi : i < 10) : acc n i ||| ((Int32.ofNat (dg n i)).toInt64 <<< (Int32.ofNat (7 * i) &&& 0x3f).toInt64) = acc n (i + 1) := by
  have hd : dg n i < 128 := Nat.mod_lt _ (by omega)
  have hN : n.toBitVec.toNat < 2 ^ 63 := by
    rw [← Int64.toInt_toBitVec, BitVec.toInt_eq_toNat_cond] at hn
    have := n.toBitVec.isLt
    split at hn <;> omega
  rw [(own_sh ⟨i, hi⟩).2, own_i2ld _ hd]
  apply own_bvnat
  rw [Int64.toBitVec_or, BitVec.toNat_or]
  have p : 2 ^ (7 * i) ≤ 2 ^ 63 := Nat.pow_le_pow_right (by omega) (by omega)
  have hm := Nat.mod_lt n.toBitVec.toNat (Nat.pow_pos (n := 7 * i) (show 0 < 2 by omega))
  have e1 : (acc n i).toBitVec.toNat = n.toBitVec.toNat % 2 ^ (7 * i) := by
    show (BitVec.ofNat 64 _).toNat = _
    rw [BitVec.toNat_ofNat, Nat.mod_eq_of_lt (by omega)]
  have e3 : (acc n (i + 1)).toBitVec.toNat = n.toBitVec.toNat % 2 ^ (7 * (i + 1)) := by
    show (BitVec.ofNat 64 _).toNat = _
    rw [BitVec.toNat_ofNat, Nat.mod_eq_of_lt]
    exact Nat.lt_of_le_of_lt (Nat.mod_le _ _) (by omega)
  have sm : n.toBitVec.toNat % 2 ^ (7 * (i + 1)) = n.toBitVec.toNat % 2 ^ (7 * i) + 2 ^ (7 * i) * dg n i := by
    rw [show 7 * (i + 1) = 7 * i + 7 by omega, Nat.pow_add, Nat.mod_mul]; rfl
  have e2 : (Int64.ofNat (dg n i) <<< Int64.ofNat (7 * i)).toBitVec.toNat = dg n i * 2 ^ (7 * i) := by
    have : (Int64.ofNat (dg n i) <<< Int64.ofNat (7 * i)).toBitVec = (BitVec.ofNat 64 (dg n i)) <<< (7 * i) := by
      have : ∀ j : Fin 10, ((BitVec.ofNat 64 (7 * j.val)).smod 64#64).toNat = 7 * j.val := by decide +kernel
      have q := this ⟨i, hi⟩
      rw [Int64.toBitVec_shiftLeft]
      show (BitVec.ofNat 64 (dg n i)) <<< ((BitVec.ofNat 64 (7 * i)).smod 64#64) = _
      rw [BitVec.shiftLeft_eq']
      rw [q]
    rw [this, BitVec.toNat_shiftLeft, BitVec.toNat_ofNat, Nat.mod_eq_of_lt (show dg n i < 2 ^ 64 by omega), Nat.shiftLeft_eq, Nat.mod_eq_of_lt]
    have : n.toBitVec.toNat % 2 ^ (7 * (i + 1)) ≤ n.toBitVec.toNat := Nat.mod_le _ _
    rw [sm] at this
    rw [Nat.mul_comm]; omega
  rw [e1, e2, e3, sm, Nat.mul_comm (dg n i)]
  rw [Nat.or_comm, ← Nat.two_pow_add_eq_or_of_lt hm]; omega
theorem own_loop (n : Int64) (hn : 0 ≤ n.toInt) (c : Nat → Int32) (s kk : Nat) (hs : s ≤ 3) (hk : kk ≤ 10) (hk1 : 1 ≤ kk) (hc : ∀ i, i < kk → c (s + i) = bv (dg n i) (decide (i < kk - 1))) :
    ∀ (j i fuel : Nat), i + j + 1 = kk → j < fuel → f2_19 fuel c 14 (acc n i) (Int32.ofNat (s + i)) (Int32.ofNat (7 * i)) = some (acc n kk) := by
  intro j
  induction j with
  | zero =>
    intro i fuel h1 h2
    obtain ⟨f, rfl⟩ : ∃ f, fuel = f + 1 := ⟨fuel - 1, by omega⟩
    have hd : dg n i < 128 := Nat.mod_lt _ (by omega)
    have b := own_bv ⟨dg n i, hd⟩ (decide (i < kk - 1))
    unfold f2_19
    rw [own_clamp (by omega), if_pos ⟨own_nneg (by omega), by omega⟩, if_pos ⟨own_nneg (by omega), by omega⟩, hc i (by omega), if_pos (b.2.1.mpr (by simp; omega)), b.1, own_acc n hn i (by omega)]
    congr 2
  | succ j ih =>
    intro i fuel h1 h2
    obtain ⟨f, rfl⟩ : ∃ f, fuel = f + 1 := ⟨fuel - 1, by omega⟩
    have hd : dg n i < 128 := Nat.mod_lt _ (by omega)
    have b := own_bv ⟨dg n i, hd⟩ (decide (i < kk - 1))
    unfold f2_19
    rw [own_clamp (by omega), if_pos ⟨own_nneg (by omega), by omega⟩, if_pos ⟨own_nneg (by omega), by omega⟩, hc i (by omega), if_neg (by rw [b.2.1]; simp; omega), b.1, own_acc n hn i (by omega)]
    rw [show Int32.ofNat (s + i) + 1 = Int32.ofNat (s + (i + 1)) from (Int32.ofNat_add (s + i) 1).symm, show Int32.ofNat (7 * i) + 7 = Int32.ofNat (7 * (i + 1)) from (Int32.ofNat_add (7 * i) 7).symm]
    exact ih (i + 1) f (by omega) (by omega)
theorem own_value (n : Int64) (hn : 0 ≤ n.toInt) (c : Nat → Int32) (s kk : Nat) (hs : s ≤ 3) (hk : kk ≤ 10) (hk1 : 1 ≤ kk) (hc : ∀ i, i < kk → c (s + i) = bv (dg n i) (decide (i < kk - 1))) : f2_0 c 14 (Int32.ofNat s) = some (acc n kk) := by
  have hd : dg n 0 < 128 := Nat.mod_lt _ (by omega)
  have b := own_bv ⟨dg n 0, hd⟩ (decide (0 < kk - 1))
  have h0 := hc 0 (by omega)
  rw [Nat.add_zero] at h0
  unfold f2_0
  rw [own_clamp (by omega), if_pos ⟨own_nneg (by omega), by omega⟩, h0]
  by_cases q : 0 < kk - 1
  · rw [if_pos (b.2.2.1.mpr (by simp; omega))]
    have := own_loop n hn c s kk hs hk hk1 hc (kk - 1) 0 11 (by omega) (by omega)
    rw [← this]; congr 1
    show (0 : Int64) = Int64.ofNat (_ % 2 ^ 0)
    rw [Nat.pow_zero, Nat.mod_one]; rfl
  · rw [if_neg (by rw [b.2.2.1]; simp; omega), if_pos ⟨own_nneg (by omega), by omega⟩, b.2.2.2 (by simp; omega), own_i2ld _ hd]
    congr 1
    have : kk = 1 := by omega
    subst this
    show Int64.ofNat (dg n 0) = Int64.ofNat _
    unfold dg; simp
theorem own_li (n junk : Int64) (S K : Int32) : ∀ q, q < 14 → li [(nar .byte (f1_0 (0 : Int32) S K n junk)), (nar .byte (f1_0 (1 : Int32) S K n junk)), (nar .byte (f1_0 (2 : Int32) S K n junk)), (nar .byte (f1_0 (3 : Int32) S K n junk)), (nar .byte (f1_0 (4 : Int32) S K n junk)), (nar .byte (f1_0 (5 : Int32) S K n junk)), (nar .byte (f1_0 (6 : Int32) S K n junk)), (nar .byte (f1_0 (7 : Int32) S K n junk)), (nar .byte (f1_0 (8 : Int32) S K n junk)), (nar .byte (f1_0 (9 : Int32) S K n junk)), (nar .byte (f1_0 (10 : Int32) S K n junk)), (nar .byte (f1_0 (11 : Int32) S K n junk)), (nar .byte (f1_0 (12 : Int32) S K n junk)), (nar .byte (f1_0 (13 : Int32) S K n junk))] q = nar .byte (f1_0 (Int32.ofNat q) S K n junk) := by
  intro q hq
  have : q = 0 ∨ q = 1 ∨ q = 2 ∨ q = 3 ∨ q = 4 ∨ q = 5 ∨ q = 6 ∨ q = 7 ∨ q = 8 ∨ q = 9 ∨ q = 10 ∨ q = 11 ∨ q = 12 ∨ q = 13 := by omega
  rcases this with rfl | rfl | rfl | rfl | rfl | rfl | rfl | rfl | rfl | rfl | rfl | rfl | rfl | rfl <;> rfl
theorem own_mask : ∀ kk : Fin 9, (((1 : Int64) <<< (((7 : Int32) * Int32.ofNat kk.val) &&& 0x3f).toInt64) - (1 : Int64)).toBitVec.toNat = 2 ^ (7 * kk.val) - 1 := by decide +kernel
theorem own_acck (n : Int64) (hn : 0 ≤ n.toInt) (kk : Nat) (h : 9 ≤ kk) : acc n kk = n := by
  apply own_bvnat
  have hN : n.toBitVec.toNat < 2 ^ 63 := by
    rw [← Int64.toInt_toBitVec, BitVec.toInt_eq_toNat_cond] at hn
    have := n.toBitVec.isLt
    split at hn <;> omega
  have p : 2 ^ 63 ≤ 2 ^ (7 * kk) := Nat.pow_le_pow_right (by omega) (by omega)
  show (BitVec.ofNat 64 _).toNat = _
  rw [BitVec.toNat_ofNat, Nat.mod_eq_of_lt (show n.toBitVec.toNat < 2 ^ (7 * kk) by omega), Nat.mod_eq_of_lt (by omega)]
theorem own_accm (n : Int64) (kk : Nat) (h : kk < 9) : acc n kk = (n &&& (((1 : Int64) <<< (((7 : Int32) * Int32.ofNat kk) &&& 0x3f).toInt64) - (1 : Int64))) := by
  apply own_bvnat
  rw [Int64.toBitVec_and, BitVec.toNat_and, own_mask ⟨kk, h⟩, Nat.and_two_pow_sub_one_eq_mod]
  show (BitVec.ofNat 64 _).toNat = _
  have := n.toBitVec.isLt
  rw [BitVec.toNat_ofNat, Nat.mod_eq_of_lt (Nat.lt_of_le_of_lt (Nat.mod_le _ _) this)]
theorem own_23 (junk n : Int64) (hn : 0 ≤ n.toInt) (s kk : Nat) (hs : s ≤ 3) (hk : kk ≤ 10) (hk1 : 1 ≤ kk) : f0_23 junk n (Int32.ofNat kk) (Int32.ofNat s) = some 1 := by
  have hv := own_value n hn _ s kk hs hk hk1 (fun i hi => (own_li n junk (Int32.ofNat s) (Int32.ofNat kk) (s + i) (by omega)).trans (own_at n junk s i kk hi hk hk1))
  unfold f0_23 f0_279
  rw [hv]
  dsimp only [Option.bind]
  by_cases q : kk < 9
  · rw [if_pos (show Int32.ofNat kk < (9 : Int32) from (own_lt (a := kk) (b := 9) (by omega) (by omega)).mpr q), if_pos (own_accm n kk q)]
  · rw [if_neg (show ¬ Int32.ofNat kk < (9 : Int32) from fun z => q ((own_lt (a := kk) (b := 9) (by omega) (by omega)).mp z)), if_pos (own_acck n hn kk (by omega))]
theorem own_iof (x : Int32) (h : 0 ≤ x.toInt) : x = Int32.ofNat x.toInt.toNat := by
  rw [own_ei, own_oi (by have := x.toInt_lt; omega)]; omega
theorem law_true (x0 : Int64) (x2 x3 : Int32) (x4 : Int64) : f0_0 x0 x2 x3 x4 = some 1 := by
  unfold f0_0
  have a := own_iand x3 3 2 rfl (by omega)
  have n := own_nn x2
  have e : ((x2 &&& 2147483647) % 10).toInt = (x2 &&& 2147483647).toInt % 10 := by rw [Int32.toInt_mod, show (10 : Int32).toInt = 10 from rfl, Int.tmod_eq_emod_of_nonneg n]
  have e2 : (((x2 &&& 2147483647) % 10) + 1).toInt = (x2 &&& 2147483647).toInt % 10 + 1 := by rw [Int32.toInt_add, e, show (1 : Int32).toInt = 1 from rfl, Int.bmod_def]; omega
  rw [own_iof (x3 &&& 3) (by omega), own_iof (((x2 &&& 2147483647) % 10) + 1) (by omega)]
  exact own_23 _ _ (own_max _) _ _ (by omega) (by omega) (by omega)

theorem pn_0 : plainName "com/example/libtreegram/libtreegram/io/Leb128ValuePinLaw" = true := by first | (simp [plainName, overriddenIn]; done) | decide +kernel
theorem ef_0 (m : MethodId) (x0 : Int64) (x2 : Int32) (x3 : Int32) (x4 : Int64) : entryFrame m #[(.long x0), (.int x2), (.int x3), (.long x4)] maxLocals = (mkF m 0 #[.val (.long x0), .second, .val (.int x2), .val (.int x3), .val (.long x4), .second, .unset, .unset, .unset, .unset, .unset, .unset, .unset] []) := by first | (simp [entryFrame, mkF, argsToLocals, Value.category, maxLocals]; done) | rfl
def Qd0 (Z : State) (h0 : Heap) (n0 : Nat) (x0 : Int64) (x2 : Int32) (x3 : Int32) (x4 : Int64) : Option Value → Heap → List Loc → Prop := (fun v h L => v = (some (.int (1 : Int32))) ∧ Fr n0 L)
set_option maxRecDepth 65536 in
set_option maxHeartbeats 40000000 in
theorem rm0 (l : Launch) (Z : State) (a0 : Array Value) (hw : ∀ d ∈ tables_1, d.before a0 Z = true) (ws : List Jvm.Cond) (x0 : Int64) (x2 : Int32) (x3 : Int32) (x4 : Int64) (h0 : Heap) (n0 : Nat) (Z0 : n0 ≤ h0.size) :
    MetFree l x (head1 (Jvm.Cond.code x code maxLocals ret :: ws) room_1) (fun a U => a = #[(.long x0), (.int x2), (.int x3), (.long x4)] ∧ Z.Warmed39 U.vm ∧ U.heap = h0) (fun _ _ _ _ _ => True) (fun _ U o U' => ∃ v L, o = .returned v ∧ (Qd0 Z h0 n0 x0 x2 x3 x4) v U'.heap L ∧ FrameEnd U o U' L room_1.cells room_1.slots) := by
  refine MetFree.of_bodySF (plainFor_of_name pn_0) hisR ?_
  intro p e s m args below meth c s₁ Bd hml0 hP hK
  obtain ⟨rfl, hZ, hh⟩ := hP
  have e0 : s₁.heap = h0 := by rw [← hh, Bd.state]; rfl
  exact OG.cast (ef_0 m x0 x2 x3 x4) (b0_0 Bd.exec hZ hw Bd.bytes hml0 (findClass_of_methodNamed Bd.named) (name_of_methodNamed Bd.named Bd.method).1 Bd.returns Bd.notSynchronized x0 x2 x3 x4 (1 : Int32) (Stand.of_body Bd) e0 (Fr.nil n0) Z0 (law_true _ _ _ _))
set_option maxRecDepth 65536 in
set_option maxHeartbeats 40000000 in
theorem comes_1 {Post : Tables → Env → Array Value → State → Outcome → State → Prop} (hpost : ∀ tb e args s v u, (limb_1_1.after args s (.returned v) u = true ∧ limb_1_2.after args s (.returned v) u = true ∧ True) → FrameEnd s (.returned v) u (Jvm.fieldLocs frame_1_writes args s ++ Jvm.arrayLocs frame_1_arrays args s ++ Jvm.staticLocs frame_1_statics s) 16 128 → Post tb e args s (.returned v) u) :
    ArmFor flags0 classFile x code maxLocals ret World_1 tables_1 room_1 Calls_1 rest_1 Pre_1 Post := by
  intro l hfl _ _ p e ha hc hk s m args below hf hA hF happ hP
  obtain ⟨hcalls, hrest, hpre⟩ := hP
  obtain ⟨-, -, -, hnamed, -, -, -, hat⟩ := (Spec.applies_iff hf).mp happ
  obtain ⟨hg, hn⟩ := and_e (Cond.before_iff.mp (show (Jvm.Cond.and given_1 narrow_1).before args s = true from hpre))
  obtain ⟨g0, r0⟩ := and_e hg
  obtain ⟨g1, r1⟩ := and_e r0
  obtain ⟨g2, r2⟩ := and_e r1
  obtain ⟨g3, r3⟩ := and_e r2
  obtain ⟨w0, w1, w2, w3, rfl⟩ : ∃ w0 w1 w2 w3 : Value, args = #[w0, w1, w2, w3] := by
    have hs : args.size = 4 := by simpa [Cond.value, given_1] using g0
    obtain ⟨L⟩ := args
    match L, hs with
    | [w0, w1, w2, w3], _ => exact ⟨w0, w1, w2, w3, rfl⟩
  have hw := fun d (hd : d ∈ tables_1) => atoms_spec (ws := Jvm.Cond.code x code maxLocals ret :: tables_1) hat d (List.mem_cons_of_mem _ hd)
  obtain ⟨i0, ei0⟩ := isL_v g1
  obtain rfl : w0 = (.long i0) := Option.some.inj ei0
  obtain ⟨i1, ei1⟩ := is_v g2
  obtain rfl : w1 = (.int i1) := Option.some.inj ei1
  obtain ⟨i2, ei2⟩ := is_v g3
  obtain rfl : w2 = (.int i2) := Option.some.inj ei2
  obtain ⟨i3, ei3⟩ := isL_v r3
  obtain rfl : w3 = (.long i3) := Option.some.inj ei3
  obtain ⟨n, o, h1, h2, h3, _, L, rfl, ⟨rfl, N⟩, hq⟩ := rm0 l s _ hw tables_1 i0 i1 i2 i3 s.heap s.heap.size (Nat.le_refl _) p e ha hc hk s m _ below hf ((Spec.applies_iff_loose hf).mp happ).1 ⟨rfl, State.Warmed39.refl s, rfl⟩ trivial
  exact ⟨n, _, h1, h2, h3, hpost _ _ _ _ _ _ ⟨Cond.after_iff.mpr rfl, Cond.after_iff.mpr (eq_i res_at (Term.int_eval (1)) rfl), trivial⟩ ⟨hq.1, hq.2.1, (hq.2.2.sift fun y hy => Or.inr (N y hy)).mono (by decide) (by decide)⟩⟩
theorem main_1_1 : Claimed_1_1 := comes_1 fun _ _ _ _ _ _ h hF => ⟨h.1, hF⟩
theorem main_1_2 : Claimed_1_2 := comes_1 fun _ _ _ _ _ _ h hF => ⟨h.2.1, hF⟩
end Jvm.Pilot.@@N@@
namespace Jvm.Pilot.@@N@@
open Jvm Jvm.ClassFile Sem Op Lib Jvm.Free Jvm.Stand Jvm.Pilot.@@N@@.Jvm.D
/-! MADE BY PROGRAM (witnessworld.py) out of the Statement's table words and the real class files: 9 classes; the members and pool entries that the words name. The judged class is class 1, her method 2. -/
namespace start1
open Jvm.ClassFile
def u (s : String) : CpInfo := .utf8 (stringToUtf16 s)
/-- a pool by its gaps: so many unusable entries, then the entry; so many at the end -/
def gap : Nat → List CpInfo → List CpInfo
  | 0, r => r
  | n + 1, r => .unusable :: gap n r
def poolList (es : List (Nat × CpInfo)) (last : Nat) : List CpInfo := es.foldr (fun e r => gap e.1 (e.2 :: r)) (gap last [])
def pool (es : List (Nat × CpInfo)) (last : Nat) : Array CpInfo := ⟨poolList es last⟩
def fileOf (pool : Array CpInfo) (this : Nat) (attrs : Array Attribute := #[]) (ms : Array MethodInfo := #[]) (fl : Nat := 33) (sup : Nat := 0) (ifs : Array Nat := #[]) (fds : Array FieldInfo := #[]) : ClassFile where
  minorVersion := 0
  majorVersion := 65
  constantPool := pool
  accessFlags := fl
  thisClass := this
  superClass := sup
  interfaces := ifs
  fields := fds
  methods := ms
  attributes := attrs
def plain (name : String) (sup : Option ClassId) : Class where
  name := name
  kind := .ordinary
  loader := none
  accessFlags := 33
  super := sup
  interfaces := #[]
  cf := none
  fields := #[]
  methods := #[]
  instanceTypes := #[]
  staticTypes := #[]
  resolved := #[]
  callSites := []
  init := .initialized
  statics := none
  mirror := none

def pool0 : Array CpInfo := pool [(5, u "<init>"), (0, u "()V"), (1, .class_ 10), (1, u "java/lang/Object")] 113

def k0m0 : Method := { name := "<init>", desc := "()V", sig := { parameters := [], returnType := none }, accessFlags := 1, code := none }
/-- java/lang/Object -/
def k0 : Class := { plain "java/lang/Object" none with
  accessFlags := 33
  interfaces := #[]
  cf := some (fileOf pool0 8 #[] #[{ accessFlags := 1, nameIndex := 5, descriptorIndex := 6, attributes := #[] }] 33 0 #[] #[])
  fields := #[]
  methods := #[k0m0]
  instanceTypes := #[]
  staticTypes := #[]
  resolved := Array.replicate 124 none
  statics := none }

def pool1 : Array CpInfo := pool [(2, .class_ 4), (1, u "java/lang/Object"), (0, u "<init>"), (0, u "()V"), (0, .long 127), (3, .long 9223372036854775807), (1, .integer 2147483647), (0, .methodref 15 16), (0, .class_ 17), (0, .nameAndType 18 19), (0, u "com/example/libtreegram/libtreegram/io/Leb128ValuePinLaw"), (0, u "at"), (0, u "(IIIJJ)B"), (0, .methodref 21 22), (0, .class_ 23), (0, .nameAndType 24 25), (0, u "com/example/libtreegram/libtreegram/io/Leb128"), (0, u "value"), (0, u "([BI)J"), (3, u "law"), (0, u "(JIIJ)Z")] 4

def k1m0 : Method := { name := "<init>", desc := "()V", sig := { parameters := [], returnType := none }, accessFlags := 2, code := none }
def k1c1 : Code := { maxStack := 4, maxLocals := 10, code := method_2_code, exceptionTable := #[], attributes := #[] }
def k1m1 : Method := { name := "at", desc := "(IIIJJ)B", sig := { parameters := [.int, .int, .int, .long, .long], returnType := some .byte }, accessFlags := 10, code := some k1c1 }
def k1c2 : Code := { maxStack := 10, maxLocals := 13, code := code, exceptionTable := #[], attributes := #[] }
def k1m2 : Method := { name := "law", desc := "(JIIJ)Z", sig := { parameters := [.long, .int, .int, .long], returnType := some .boolean }, accessFlags := 9, code := some k1c2 }
/-- com/example/libtreegram/libtreegram/io/Leb128ValuePinLaw -/
def k1 : Class := { plain "com/example/libtreegram/libtreegram/io/Leb128ValuePinLaw" (some 0) with
  accessFlags := 49
  interfaces := #[]
  cf := some (fileOf pool1 15 #[] #[{ accessFlags := 2, nameIndex := 5, descriptorIndex := 6, attributes := #[] }, { accessFlags := 10, nameIndex := 18, descriptorIndex := 19, attributes := #[] }, { accessFlags := 9, nameIndex := 29, descriptorIndex := 30, attributes := #[] }] 49 2 #[] #[])
  fields := #[]
  methods := #[k1m0, k1m1, k1m2]
  instanceTypes := #[]
  staticTypes := #[]
  resolved := Array.replicate 35 none
  statics := none }

def pool2 : Array CpInfo := pool [(4, .class_ 6), (1, u "java/lang/Object"), (0, u "<init>"), (0, u "()V"), (0, .class_ 10), (0, u "com/example/libtreegram/libtreegram/io/Leb128"), (20, u "LONGEST"), (0, u "I"), (2, u "UNENDED"), (1, u "TOO_LARGE"), (1, u "DIGIT_BITS"), (1, u "DIGIT"), (1, u "MORE"), (10, u "value"), (0, u "([BI)J")] 2

def k2m0 : Method := { name := "<init>", desc := "()V", sig := { parameters := [], returnType := none }, accessFlags := 2, code := none }
def k2c1 : Code := { maxStack := 5, maxLocals := 6, code := prog_53_method_5_code, exceptionTable := #[], attributes := #[] }
def k2m1 : Method := { name := "value", desc := "([BI)J", sig := { parameters := [(.array .byte), .int], returnType := some .long }, accessFlags := 8, code := some k2c1 }
/-- com/example/libtreegram/libtreegram/io/Leb128 -/
def k2 : Class := { plain "com/example/libtreegram/libtreegram/io/Leb128" (some 0) with
  accessFlags := 32
  interfaces := #[]
  cf := some (fileOf pool2 9 #[] #[{ accessFlags := 2, nameIndex := 7, descriptorIndex := 8, attributes := #[] }, { accessFlags := 8, nameIndex := 54, descriptorIndex := 55, attributes := #[] }] 32 4 #[] #[{ accessFlags := 24, nameIndex := 31, descriptorIndex := 32, attributes := #[] }, { accessFlags := 24, nameIndex := 35, descriptorIndex := 32, attributes := #[] }, { accessFlags := 24, nameIndex := 37, descriptorIndex := 32, attributes := #[] }, { accessFlags := 26, nameIndex := 39, descriptorIndex := 32, attributes := #[] }, { accessFlags := 26, nameIndex := 41, descriptorIndex := 32, attributes := #[] }, { accessFlags := 26, nameIndex := 43, descriptorIndex := 32, attributes := #[] }])
  fields := #[{ name := "LONGEST", type := .int, accessFlags := 24, slot := 0, constantValue := 0 }, { name := "UNENDED", type := .int, accessFlags := 24, slot := 1, constantValue := 0 }, { name := "TOO_LARGE", type := .int, accessFlags := 24, slot := 2, constantValue := 0 }, { name := "DIGIT_BITS", type := .int, accessFlags := 26, slot := 3, constantValue := 0 }, { name := "DIGIT", type := .int, accessFlags := 26, slot := 4, constantValue := 0 }, { name := "MORE", type := .int, accessFlags := 26, slot := 5, constantValue := 0 }]
  methods := #[k2m0, k2m1]
  instanceTypes := #[]
  staticTypes := #[.int, .int, .int, .int, .int, .int]
  resolved := Array.replicate 58 none
  statics := none }

def pool3 : Array CpInfo := pool [(1, u "java/lang/Cloneable"), (0, .class_ 1), (0, u "java/lang/Object"), (0, .class_ 3)] 3

/-- java/lang/Cloneable -/
def k3 : Class := { plain "java/lang/Cloneable" (some 0) with
  accessFlags := 1537
  interfaces := #[]
  cf := some (fileOf pool3 2 #[] #[] 1537 4 #[] #[])
  fields := #[]
  methods := #[]
  instanceTypes := #[]
  staticTypes := #[]
  resolved := Array.replicate 8 none
  statics := none }

def pool4 : Array CpInfo := pool [(1, u "java/io/Serializable"), (0, .class_ 1), (0, u "java/lang/Object"), (0, .class_ 3)] 3

/-- java/io/Serializable -/
def k4 : Class := { plain "java/io/Serializable" (some 0) with
  accessFlags := 1537
  interfaces := #[]
  cf := some (fileOf pool4 2 #[] #[] 1537 4 #[] #[])
  fields := #[]
  methods := #[]
  instanceTypes := #[]
  staticTypes := #[]
  resolved := Array.replicate 8 none
  statics := none }

/-- the primitive byte -/
def k5 : Class := { plain "byte" none with kind := .primitive 'B', accessFlags := 0x411 }
/-- [B -/
def k6 : Class := { plain "[B" (some 0) with kind := .array 5 .byte, interfaces := #[3, 4], accessFlags := 1041 }

/-- the primitive int -/
def k7 : Class := { plain "int" none with kind := .primitive 'I', accessFlags := 0x411 }
/-- [I -/
def k8 : Class := { plain "[I" (some 0) with kind := .array 7 .int, interfaces := #[3, 4], accessFlags := 1041 }

def heap : Heap := #[]
def classes : Array Class := #[k0, k1, k2, k3, k4, k5, k6, k7, k8]
def interned : List (Array UInt16 × Addr) := []
def slotsUsed : Nat := 0
def theMethod : MethodId := ⟨1, 2⟩
def args0 : Array Value := #[.long 5, .int 7, .int 9, .long 11]
def aboutOver (below : List Frame) : State where
  vm := { classes := classes, interned := interned.toArray }
  heap := heap
  slotsUsed := slotsUsed
  threads := #[{ frames := .invoking theMethod args0 :: below }]
def below0 : List Frame := [.native { method := ⟨0, 0⟩, args := #[] }]
def about1 : State := aboutOver below0
def p0 : Program := .bare "" "" ""
def e0 : Env := launch0.env 0 0 0
theorem w_frames : about1.frames = Frame.invoking theMethod args0 :: below0 := rfl
set_option maxRecDepth 65536 in
theorem w_args : argsFit about1.vm theMethod args0 = true := by decide +kernel
set_option maxRecDepth 65536 in
theorem w_heap : heapFits about1 = true := by decide +kernel
set_option maxRecDepth 65536 in
theorem w_runnable : about1.curStatus? = some .runnable := by decide +kernel
set_option maxRecDepth 65536 in
theorem w_alone : about1.alone = true := by decide +kernel
set_option maxRecDepth 65536 in
theorem w_named : about1.methodNamed? x = some theMethod := by decide +kernel
set_option maxRecDepth 65536 in
theorem w_hears : about1.hears theMethod below0 = true := by decide +kernel
set_option maxRecDepth 65536 in
theorem w_ripe : about1.ripe theMethod args0 below0 = true := by decide +kernel
theorem w_running : about1.status = .running := rfl
set_option maxRecDepth 65536 in
theorem w_room : about1.hasRoom e0.platform room_1 = true :=
  launch0.hasRoom_least _ room_1 (by decide +kernel) (by decide +kernel) (by decide +kernel) (by decide +kernel) (by decide +kernel) (by decide +kernel)
theorem allAtoms_all (ts : List Jvm.Cond) (a : Array Jvm.Value) (st : Jvm.State) : (allAtoms ts).before a st = ts.all (fun c => c.before a st) := by
  induction ts with
  | nil => rfl
  | cons c t ih =>
    show (Jvm.Cond.and c (allAtoms t)).before a st = _
    rw [Jvm.Cond.before_and, ih, List.all_cons]
def words1 : List Jvm.Cond := Jvm.Cond.code x code maxLocals ret :: tables_1
/-- a 'code' word, met by the world's own term for the bytes: nothing is compared byte by byte -/
theorem code_word {y : MethodName} {bytes : ByteArray} {mx : Nat} {rt : Option FieldType} {a : Array Value} {s : State} {m : MethodId} {meth : Method} {c : Code} (h1 : s.methodNamed? y = some m) (h2 : s.vm.method? m = some meth) (h3 : meth.code = some c) (h4 : c.code = bytes)
    (h5 : (c.maxLocals == mx && c.exceptionTable.isEmpty && decide (c.maxStack ≤ mostOperands) && decide (meth.sig.returnType = rt) && !meth.locks && decide (parseMethodDescriptor y.desc = some meth.sig)) = true) : (Jvm.Cond.code y bytes mx rt).before a s = true := by
  simp only [Bool.and_eq_true, beq_iff_eq, Bool.not_eq_true', decide_eq_true_eq] at h5
  obtain ⟨⟨⟨⟨⟨g1, g2⟩, g3⟩, g4⟩, g5⟩, g6⟩ := h5
  simp [Cond.before, Cond.holds, Cond.value, h1, h2, h3, h4, g1, g2, g3, g4, g5, g6]
def isCode : Jvm.Cond → Bool
  | .code _ _ _ _ => true
  | _ => false
theorem all_split {L : List Jvm.Cond} {P : Jvm.Cond → Bool} (h1 : L.all (fun c => isCode c || P c) = true) (h2 : ∀ c ∈ L.filter isCode, P c = true) : L.all P = true := by
  refine List.all_eq_true.mpr fun c hc => ?_
  have h := List.all_eq_true.mp h1 c hc
  rcases Bool.eq_false_or_eq_true (isCode c) with hi | hi
  · exact h2 c (List.mem_filter.mpr ⟨hc, hi⟩)
  · simpa [hi] using h
set_option maxRecDepth 65536 in
theorem w_c0 : (Jvm.Cond.code x code maxLocals ret).before args0 about1 = true := code_word (m := ⟨1, 2⟩) (meth := k1m2) (c := k1c2) (by decide +kernel) rfl rfl rfl (by decide +kernel)
set_option maxRecDepth 65536 in
theorem w_c1 : (Jvm.Cond.code ({ cls := "com/example/libtreegram/libtreegram/io/Leb128ValuePinLaw", name := "at", desc := "(IIIJJ)B" } : Jvm.MethodName) method_2_code (10 : Nat) (Option.some Jvm.ClassFile.FieldType.byte)).before args0 about1 = true := code_word (m := ⟨1, 1⟩) (meth := k1m1) (c := k1c1) (by decide +kernel) rfl rfl rfl (by decide +kernel)
set_option maxRecDepth 65536 in
theorem w_c2 : (Jvm.Cond.code ({ cls := "com/example/libtreegram/libtreegram/io/Leb128", name := "value", desc := "([BI)J" } : Jvm.MethodName) prog_53_method_5_code (6 : Nat) (Option.some Jvm.ClassFile.FieldType.long)).before args0 about1 = true := code_word (m := ⟨2, 1⟩) (meth := k2m1) (c := k2c1) (by decide +kernel) rfl rfl rfl (by decide +kernel)
def codes1 : List Jvm.Cond := [Jvm.Cond.code x code maxLocals ret, Jvm.Cond.code ({ cls := "com/example/libtreegram/libtreegram/io/Leb128ValuePinLaw", name := "at", desc := "(IIIJJ)B" } : Jvm.MethodName) method_2_code (10 : Nat) (Option.some Jvm.ClassFile.FieldType.byte), Jvm.Cond.code ({ cls := "com/example/libtreegram/libtreegram/io/Leb128", name := "value", desc := "([BI)J" } : Jvm.MethodName) prog_53_method_5_code (6 : Nat) (Option.some Jvm.ClassFile.FieldType.long)]
set_option maxRecDepth 65536 in
theorem codes_eq : words1.filter isCode = codes1 := rfl
theorem w_codes : ∀ c ∈ words1.filter isCode, c.before args0 about1 = true := by
  rw [codes_eq]
  intro c hc
  simp only [codes1, List.mem_cons, List.not_mem_nil, or_false] at hc
  rcases hc with rfl | rfl | rfl
  · exact w_c0
  · exact w_c1
  · exact w_c2
set_option maxRecDepth 65536 in
theorem w_t1 : words1.all (fun c => isCode c || c.before args0 about1) = true := by decide +kernel
theorem w_tables : (allAtoms (Jvm.Cond.code x code maxLocals ret :: tables_1)).before args0 about1 = true := by
  rw [allAtoms_all]
  show words1.all (fun c => c.before args0 about1) = true
  refine all_split ?_ w_codes
  rw [w_t1]
set_option maxRecDepth 65536 in
theorem w_case : (Jvm.Cond.and given_1 narrow_1).before args0 about1 = true := by decide +kernel
theorem w_applies : (headSpec (Jvm.Cond.code x code maxLocals ret :: tables_1) room_1).applies x e0.platform about1 = true :=
  (Spec.applies_iff w_frames).mpr ⟨w_running, w_runnable, w_alone, w_named, w_hears, w_ripe, w_room, w_tables⟩
theorem atStart : AtStart classFile x code maxLocals ret World_1 tables_1 room_1 Calls_1 rest_1 Pre_1 launch0 p0 e0 about1 theMethod args0 below0 :=
  ⟨lists_1, trivial, launch0.admits_env _ _ _, launch0.least_env, fairChoices_fair.cas, fairChoices_fair.clock, w_frames, w_args, w_heap, w_applies, trivial, trivial, w_case⟩
end start1
theorem witness_1 : WitnessClaimed_1 := ⟨start1.p0, start1.e0, start1.about1, start1.theMethod, start1.args0, start1.below0, start1.atStart⟩
end Jvm.Pilot.@@N@@
