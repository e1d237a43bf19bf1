import JvmDerived
import JvmDerived.Pilot.@@N@@Statement
import JvmDerived.Pilot.@@N@@Code
set_option linter.unusedVariables false
set_option linter.unusedSimpArgs false
namespace Jvm.RoadKit
open Sem ClassFile Op Lib Jvm.Stand Jvm.Free Jvm.LawKit
section New
variable {p : Program} {l : Launch} {e : Env} {R : Room} {s : State} {m : MethodId} {args : Array Value} {below : List Frame} {meth : Method} {c : Code} {T : State} {locs : List Loc} {cells slots : Nat}
theorem retI (X : Stand p l e R s m args below meth c T locs cells slots) (hx : p.tables.exec = Jvm.exec) {pc : Nat} {Ls : Array Slot} {z : Int32} {rest : List Value} (hret : meth.sig.returnType = some .int) (hd : decode c.code pc = .ok (.ireturn, 1)) {fs : List Frame}
    (hl : ∀ (f : JFrame) (acts : List Action), f.method = m → f.locked = none → f.entered = [] → (doReturn e (T.setTop f) acts (some (.int z))).1 = T.setFrames fs) : Steps p.tables e below (T.setTop (mkF m pc Ls (.int z :: rest))) (T.setFrames fs) := by
  have hm' : T.vm.method? m = some meth := X.method'
  have hn : narrow .int (.int z) = .int z := rfl
  show Steps p.tables e below (T.setTop { method := m, pc := pc, locals := Ls, stack := _ :: rest, locked := none }) _
  jvm_step X.here [X.here.top, hx, hd, hm', hret, hn]
  first | (intro acts; rw [hl _ acts rfl rfl rfl]) | rw [hl _ _ rfl rfl rfl]
  exact Steps.refl _
theorem retJ (X : Stand p l e R s m args below meth c T locs cells slots) (hx : p.tables.exec = Jvm.exec) {pc : Nat} {Ls : Array Slot} {z : Int64} {rest : List Value} (hret : meth.sig.returnType = some .long) (hd : decode c.code pc = .ok (.lreturn, 1)) {fs : List Frame}
    (hl : ∀ (f : JFrame) (acts : List Action), f.method = m → f.locked = none → f.entered = [] → (doReturn e (T.setTop f) acts (some (.long z))).1 = T.setFrames fs) : Steps p.tables e below (T.setTop (mkF m pc Ls (.long z :: rest))) (T.setFrames fs) := by
  have hm' : T.vm.method? m = some meth := X.method'
  have hn : narrow .long (.long z) = .long z := rfl
  show Steps p.tables e below (T.setTop { method := m, pc := pc, locals := Ls, stack := _ :: rest, locked := none }) _
  jvm_step X.here [X.here.top, hx, hd, hm', hret, hn]
  first | (intro acts; rw [hl _ acts rfl rfl rfl]) | rw [hl _ _ rfl rfl rfl]
  exact Steps.refl _
end New
end Jvm.RoadKit
namespace Jvm.Pilot.@@N@@
open Jvm Jvm.ClassFile Sem Op Lib Jvm.Free Jvm.Stand Jvm.LawKit Jvm.RoadKit Bundle Jvm.Pilot.@@N@@.Jvm.D
section Own
variable {p : Program} {l : Launch} {e : Env} {R : Room} {s : State} {m : MethodId} {args : Array Value} {below : List Frame} {meth : Method} {c : Code} {T : State} {locs : List Loc} {cells slots : Nat} {Q : Option Value → Heap → List Loc → Prop} {kc ks : Nat}
/-- from this frame the walk goes to its end, with Q -/
def OG (p : Program) (e : Env) (below : List Frame) (s : State) (Q : Option Value → Heap → List Loc → Prop) (kc ks : Nat) (T : State) (g : JFrame) : Prop :=
  ∃ s₂ o, Steps p.tables e below (T.setTop g) s₂ ∧ s₂.status = .running ∧ Ended s₂ below o ∧ ∃ v L, o = .returned v ∧ Q v s₂.heap L ∧ FrameEnd s o s₂ L kc ks
theorem OG.step {T' : State} {g g' : JFrame} (st : ∀ t, Steps p.tables e below (T'.setTop g') t → Steps p.tables e below (T.setTop g) t) (h : OG p e below s Q kc ks T' g') : OG p e below s Q kc ks T g := by
  obtain ⟨s₂, o, h1, h2⟩ := h
  exact ⟨s₂, o, st _ h1, h2⟩
theorem OG.cast {g g' : JFrame} (q : g = g') (h : OG p e below s Q kc ks T g') : OG p e below s Q kc ks T g := q ▸ h
theorem OG.mono {Q' : Option Value → Heap → List Loc → Prop} {g : JFrame} (hq : ∀ v h L, Q v h L → Q' v h L) (h : OG p e below s Q kc ks T g) : OG p e below s Q' kc ks T g := by
  obtain ⟨s₂, o, h1, h2, h3, v, L, h4, h5, h6⟩ := h
  exact ⟨s₂, o, h1, h2, h3, v, L, h4, hq _ _ _ h5, h6⟩
theorem o_iadd (X : Stand p l e R s m args below meth c T locs cells slots) (hx : p.tables.exec = Jvm.exec) {pc pc' : Nat} {Ls : Array Slot} {x y : Int32} {rest : List Value} (hd : decode c.code pc = .ok (.iadd, 1)) (hp : pc + 1 = pc') (h : OG p e below s Q kc ks T (mkF m pc' Ls (.int (x + y) :: rest))) : OG p e below s Q kc ks T (mkF m pc Ls (.int y :: .int x :: rest)) := by
  subst hp; exact OG.step (fun t q => XS.iadd X.here hx rfl hd rfl q) h
theorem o_isub (X : Stand p l e R s m args below meth c T locs cells slots) (hx : p.tables.exec = Jvm.exec) {pc pc' : Nat} {Ls : Array Slot} {x y : Int32} {rest : List Value} (hd : decode c.code pc = .ok (.isub, 1)) (hp : pc + 1 = pc') (h : OG p e below s Q kc ks T (mkF m pc' Ls (.int (x - y) :: rest))) : OG p e below s Q kc ks T (mkF m pc Ls (.int y :: .int x :: rest)) := by
  subst hp; exact OG.step (fun t q => XS.isub X.here hx rfl hd rfl q) h
theorem o_imul (X : Stand p l e R s m args below meth c T locs cells slots) (hx : p.tables.exec = Jvm.exec) {pc pc' : Nat} {Ls : Array Slot} {x y : Int32} {rest : List Value} (hd : decode c.code pc = .ok (.imul, 1)) (hp : pc + 1 = pc') (h : OG p e below s Q kc ks T (mkF m pc' Ls (.int (x * y) :: rest))) : OG p e below s Q kc ks T (mkF m pc Ls (.int y :: .int x :: rest)) := by
  subst hp; exact OG.step (fun t q => XS.imul X.here hx rfl hd rfl q) h
theorem o_iand (X : Stand p l e R s m args below meth c T locs cells slots) (hx : p.tables.exec = Jvm.exec) {pc pc' : Nat} {Ls : Array Slot} {x y : Int32} {rest : List Value} (hd : decode c.code pc = .ok (.iand, 1)) (hp : pc + 1 = pc') (h : OG p e below s Q kc ks T (mkF m pc' Ls (.int (x &&& y) :: rest))) : OG p e below s Q kc ks T (mkF m pc Ls (.int y :: .int x :: rest)) := by
  subst hp; exact OG.step (fun t q => XS.iand X.here hx rfl hd rfl q) h
theorem o_ior (X : Stand p l e R s m args below meth c T locs cells slots) (hx : p.tables.exec = Jvm.exec) {pc pc' : Nat} {Ls : Array Slot} {x y : Int32} {rest : List Value} (hd : decode c.code pc = .ok (.ior, 1)) (hp : pc + 1 = pc') (h : OG p e below s Q kc ks T (mkF m pc' Ls (.int (x ||| y) :: rest))) : OG p e below s Q kc ks T (mkF m pc Ls (.int y :: .int x :: rest)) := by
  subst hp; exact OG.step (fun t q => XS.ior X.here hx rfl hd rfl q) h
theorem o_ixor (X : Stand p l e R s m args below meth c T locs cells slots) (hx : p.tables.exec = Jvm.exec) {pc pc' : Nat} {Ls : Array Slot} {x y : Int32} {rest : List Value} (hd : decode c.code pc = .ok (.ixor, 1)) (hp : pc + 1 = pc') (h : OG p e below s Q kc ks T (mkF m pc' Ls (.int (x ^^^ y) :: rest))) : OG p e below s Q kc ks T (mkF m pc Ls (.int y :: .int x :: rest)) := by
  subst hp; exact OG.step (fun t q => XS.ixor X.here hx rfl hd rfl q) h
theorem o_ladd (X : Stand p l e R s m args below meth c T locs cells slots) (hx : p.tables.exec = Jvm.exec) {pc pc' : Nat} {Ls : Array Slot} {x y : Int64} {rest : List Value} (hd : decode c.code pc = .ok (.ladd, 1)) (hp : pc + 1 = pc') (h : OG p e below s Q kc ks T (mkF m pc' Ls (.long (x + y) :: rest))) : OG p e below s Q kc ks T (mkF m pc Ls (.long y :: .long x :: rest)) := by
  subst hp; exact OG.step (fun t q => XS.ladd X.here hx rfl hd rfl q) h
theorem o_lsub (X : Stand p l e R s m args below meth c T locs cells slots) (hx : p.tables.exec = Jvm.exec) {pc pc' : Nat} {Ls : Array Slot} {x y : Int64} {rest : List Value} (hd : decode c.code pc = .ok (.lsub, 1)) (hp : pc + 1 = pc') (h : OG p e below s Q kc ks T (mkF m pc' Ls (.long (x - y) :: rest))) : OG p e below s Q kc ks T (mkF m pc Ls (.long y :: .long x :: rest)) := by
  subst hp; exact OG.step (fun t q => XS.lsub X.here hx rfl hd rfl q) h
theorem o_lmul (X : Stand p l e R s m args below meth c T locs cells slots) (hx : p.tables.exec = Jvm.exec) {pc pc' : Nat} {Ls : Array Slot} {x y : Int64} {rest : List Value} (hd : decode c.code pc = .ok (.lmul, 1)) (hp : pc + 1 = pc') (h : OG p e below s Q kc ks T (mkF m pc' Ls (.long (x * y) :: rest))) : OG p e below s Q kc ks T (mkF m pc Ls (.long y :: .long x :: rest)) := by
  subst hp; exact OG.step (fun t q => XS.lmul X.here hx rfl hd rfl q) h
theorem o_land (X : Stand p l e R s m args below meth c T locs cells slots) (hx : p.tables.exec = Jvm.exec) {pc pc' : Nat} {Ls : Array Slot} {x y : Int64} {rest : List Value} (hd : decode c.code pc = .ok (.land, 1)) (hp : pc + 1 = pc') (h : OG p e below s Q kc ks T (mkF m pc' Ls (.long (x &&& y) :: rest))) : OG p e below s Q kc ks T (mkF m pc Ls (.long y :: .long x :: rest)) := by
  subst hp; exact OG.step (fun t q => XS.land X.here hx rfl hd rfl q) h
theorem o_lor (X : Stand p l e R s m args below meth c T locs cells slots) (hx : p.tables.exec = Jvm.exec) {pc pc' : Nat} {Ls : Array Slot} {x y : Int64} {rest : List Value} (hd : decode c.code pc = .ok (.lor, 1)) (hp : pc + 1 = pc') (h : OG p e below s Q kc ks T (mkF m pc' Ls (.long (x ||| y) :: rest))) : OG p e below s Q kc ks T (mkF m pc Ls (.long y :: .long x :: rest)) := by
  subst hp; exact OG.step (fun t q => XS.lor X.here hx rfl hd rfl q) h
theorem o_lxor (X : Stand p l e R s m args below meth c T locs cells slots) (hx : p.tables.exec = Jvm.exec) {pc pc' : Nat} {Ls : Array Slot} {x y : Int64} {rest : List Value} (hd : decode c.code pc = .ok (.lxor, 1)) (hp : pc + 1 = pc') (h : OG p e below s Q kc ks T (mkF m pc' Ls (.long (x ^^^ y) :: rest))) : OG p e below s Q kc ks T (mkF m pc Ls (.long y :: .long x :: rest)) := by
  subst hp; exact OG.step (fun t q => XS.lxor X.here hx rfl hd rfl q) h
theorem o_ishl (X : Stand p l e R s m args below meth c T locs cells slots) (hx : p.tables.exec = Jvm.exec) {pc pc' : Nat} {Ls : Array Slot} {x y : Int32} {rest : List Value} (hd : decode c.code pc = .ok (.ishl, 1)) (hp : pc + 1 = pc') (h : OG p e below s Q kc ks T (mkF m pc' Ls (.int (x <<< (y &&& 31)) :: rest))) : OG p e below s Q kc ks T (mkF m pc Ls (.int y :: .int x :: rest)) := by
  subst hp; exact OG.step (fun t q => XS.ishl X.here hx rfl hd rfl q) h
theorem o_ishr (X : Stand p l e R s m args below meth c T locs cells slots) (hx : p.tables.exec = Jvm.exec) {pc pc' : Nat} {Ls : Array Slot} {x y : Int32} {rest : List Value} (hd : decode c.code pc = .ok (.ishr, 1)) (hp : pc + 1 = pc') (h : OG p e below s Q kc ks T (mkF m pc' Ls (.int (x >>> (y &&& 31)) :: rest))) : OG p e below s Q kc ks T (mkF m pc Ls (.int y :: .int x :: rest)) := by
  subst hp; exact OG.step (fun t q => XS.ishr X.here hx rfl hd rfl q) h
theorem o_iushr (X : Stand p l e R s m args below meth c T locs cells slots) (hx : p.tables.exec = Jvm.exec) {pc pc' : Nat} {Ls : Array Slot} {x y : Int32} {rest : List Value} (hd : decode c.code pc = .ok (.iushr, 1)) (hp : pc + 1 = pc') (h : OG p e below s Q kc ks T (mkF m pc' Ls (.int ((x.toUInt32 >>> (y &&& 31).toUInt32).toInt32) :: rest))) : OG p e below s Q kc ks T (mkF m pc Ls (.int y :: .int x :: rest)) := by
  subst hp; exact OG.step (fun t q => XS.iushr X.here hx rfl hd rfl q) h
theorem o_lshl (X : Stand p l e R s m args below meth c T locs cells slots) (hx : p.tables.exec = Jvm.exec) {pc pc' : Nat} {Ls : Array Slot} {x : Int64} {y : Int32} {rest : List Value} (hd : decode c.code pc = .ok (.lshl, 1)) (hp : pc + 1 = pc') (h : OG p e below s Q kc ks T (mkF m pc' Ls (.long (x <<< (y &&& 0x3f).toInt64) :: rest))) : OG p e below s Q kc ks T (mkF m pc Ls (.int y :: .long x :: rest)) := by
  subst hp; exact OG.step (fun t q => XS.lshl X.here hx rfl hd rfl q) h
theorem o_lshr (X : Stand p l e R s m args below meth c T locs cells slots) (hx : p.tables.exec = Jvm.exec) {pc pc' : Nat} {Ls : Array Slot} {x : Int64} {y : Int32} {rest : List Value} (hd : decode c.code pc = .ok (.lshr, 1)) (hp : pc + 1 = pc') (h : OG p e below s Q kc ks T (mkF m pc' Ls (.long (x >>> (y &&& 0x3f).toInt64) :: rest))) : OG p e below s Q kc ks T (mkF m pc Ls (.int y :: .long x :: rest)) := by
  subst hp; exact OG.step (fun t q => XS.lshr X.here hx rfl hd rfl q) h
theorem o_lushr (X : Stand p l e R s m args below meth c T locs cells slots) (hx : p.tables.exec = Jvm.exec) {pc pc' : Nat} {Ls : Array Slot} {x : Int64} {y : Int32} {rest : List Value} (hd : decode c.code pc = .ok (.lushr, 1)) (hp : pc + 1 = pc') (h : OG p e below s Q kc ks T (mkF m pc' Ls (.long ((x.toUInt64 >>> (y &&& 0x3f).toInt64.toUInt64).toInt64) :: rest))) : OG p e below s Q kc ks T (mkF m pc Ls (.int y :: .long x :: rest)) := by
  subst hp; exact OG.step (fun t q => XS.lushr X.here hx rfl hd rfl q) h
theorem o_idiv (X : Stand p l e R s m args below meth c T locs cells slots) (hx : p.tables.exec = Jvm.exec) {pc pc' : Nat} {Ls : Array Slot} {x y : Int32} {rest : List Value} (hd : decode c.code pc = .ok (.idiv, 1)) (hy : y ≠ 0) (hp : pc + 1 = pc') (h : OG p e below s Q kc ks T (mkF m pc' Ls (.int (x / y) :: rest))) : OG p e below s Q kc ks T (mkF m pc Ls (.int y :: .int x :: rest)) := by
  subst hp; exact OG.step (fun t q => XS.idiv X.here hx rfl hd rfl hy q) h
theorem o_ldiv (X : Stand p l e R s m args below meth c T locs cells slots) (hx : p.tables.exec = Jvm.exec) {pc pc' : Nat} {Ls : Array Slot} {x y : Int64} {rest : List Value} (hd : decode c.code pc = .ok (.ldiv, 1)) (hy : y ≠ 0) (hp : pc + 1 = pc') (h : OG p e below s Q kc ks T (mkF m pc' Ls (.long (x / y) :: rest))) : OG p e below s Q kc ks T (mkF m pc Ls (.long y :: .long x :: rest)) := by
  subst hp; exact OG.step (fun t q => XS.ldiv X.here hx rfl hd rfl hy q) h
theorem o_irem (X : Stand p l e R s m args below meth c T locs cells slots) (hx : p.tables.exec = Jvm.exec) {pc pc' : Nat} {Ls : Array Slot} {x y : Int32} {rest : List Value} (hd : decode c.code pc = .ok (.irem, 1)) (hy : y ≠ 0) (hp : pc + 1 = pc') (h : OG p e below s Q kc ks T (mkF m pc' Ls (.int (x % y) :: rest))) : OG p e below s Q kc ks T (mkF m pc Ls (.int y :: .int x :: rest)) := by
  subst hp; exact OG.step (fun t q => iremM X hx rfl hd rfl hy q) h
theorem o_lrem (X : Stand p l e R s m args below meth c T locs cells slots) (hx : p.tables.exec = Jvm.exec) {pc pc' : Nat} {Ls : Array Slot} {x y : Int64} {rest : List Value} (hd : decode c.code pc = .ok (.lrem, 1)) (hy : y ≠ 0) (hp : pc + 1 = pc') (h : OG p e below s Q kc ks T (mkF m pc' Ls (.long (x % y) :: rest))) : OG p e below s Q kc ks T (mkF m pc Ls (.long y :: .long x :: rest)) := by
  subst hp; rw [← lrem_mod] at h; exact OG.step (fun t q => XS.lrem X.here hx rfl hd rfl hy q) h
theorem o_ineg (X : Stand p l e R s m args below meth c T locs cells slots) (hx : p.tables.exec = Jvm.exec) {pc pc' : Nat} {Ls : Array Slot} {x : Int32} {rest : List Value} (hd : decode c.code pc = .ok (.ineg, 1)) (hp : pc + 1 = pc') (h : OG p e below s Q kc ks T (mkF m pc' Ls (.int ((-x)) :: rest))) : OG p e below s Q kc ks T (mkF m pc Ls (.int x :: rest)) := by
  subst hp; exact OG.step (fun t q => XS.ineg X.here hx rfl hd rfl q) h
theorem o_lneg (X : Stand p l e R s m args below meth c T locs cells slots) (hx : p.tables.exec = Jvm.exec) {pc pc' : Nat} {Ls : Array Slot} {x : Int64} {rest : List Value} (hd : decode c.code pc = .ok (.lneg, 1)) (hp : pc + 1 = pc') (h : OG p e below s Q kc ks T (mkF m pc' Ls (.long ((-x)) :: rest))) : OG p e below s Q kc ks T (mkF m pc Ls (.long x :: rest)) := by
  subst hp; exact OG.step (fun t q => XS.lneg X.here hx rfl hd rfl q) h
theorem o_i2l (X : Stand p l e R s m args below meth c T locs cells slots) (hx : p.tables.exec = Jvm.exec) {pc pc' : Nat} {Ls : Array Slot} {x : Int32} {rest : List Value} (hd : decode c.code pc = .ok (.i2l, 1)) (hp : pc + 1 = pc') (h : OG p e below s Q kc ks T (mkF m pc' Ls (.long (x.toInt64) :: rest))) : OG p e below s Q kc ks T (mkF m pc Ls (.int x :: rest)) := by
  subst hp; exact OG.step (fun t q => XS.i2l X.here hx rfl hd rfl q) h
theorem o_l2i (X : Stand p l e R s m args below meth c T locs cells slots) (hx : p.tables.exec = Jvm.exec) {pc pc' : Nat} {Ls : Array Slot} {x : Int64} {rest : List Value} (hd : decode c.code pc = .ok (.l2i, 1)) (hp : pc + 1 = pc') (h : OG p e below s Q kc ks T (mkF m pc' Ls (.int (x.toInt32) :: rest))) : OG p e below s Q kc ks T (mkF m pc Ls (.long x :: rest)) := by
  subst hp; exact OG.step (fun t q => XS.l2i X.here hx rfl hd rfl q) h
theorem o_i2b (X : Stand p l e R s m args below meth c T locs cells slots) (hx : p.tables.exec = Jvm.exec) {pc pc' : Nat} {Ls : Array Slot} {x : Int32} {rest : List Value} (hd : decode c.code pc = .ok (.i2b, 1)) (hp : pc + 1 = pc') (h : OG p e below s Q kc ks T (mkF m pc' Ls (.int (x.toInt8.toInt32) :: rest))) : OG p e below s Q kc ks T (mkF m pc Ls (.int x :: rest)) := by
  subst hp; exact OG.step (fun t q => XS.i2b X.here hx rfl hd rfl q) h
theorem o_i2c (X : Stand p l e R s m args below meth c T locs cells slots) (hx : p.tables.exec = Jvm.exec) {pc pc' : Nat} {Ls : Array Slot} {x : Int32} {rest : List Value} (hd : decode c.code pc = .ok (.i2c, 1)) (hp : pc + 1 = pc') (h : OG p e below s Q kc ks T (mkF m pc' Ls (.int (x.toUInt32.toUInt16.toUInt32.toInt32) :: rest))) : OG p e below s Q kc ks T (mkF m pc Ls (.int x :: rest)) := by
  subst hp; exact OG.step (fun t q => XS.i2c X.here hx rfl hd rfl q) h
theorem o_i2s (X : Stand p l e R s m args below meth c T locs cells slots) (hx : p.tables.exec = Jvm.exec) {pc pc' : Nat} {Ls : Array Slot} {x : Int32} {rest : List Value} (hd : decode c.code pc = .ok (.i2s, 1)) (hp : pc + 1 = pc') (h : OG p e below s Q kc ks T (mkF m pc' Ls (.int (x.toInt16.toInt32) :: rest))) : OG p e below s Q kc ks T (mkF m pc Ls (.int x :: rest)) := by
  subst hp; exact OG.step (fun t q => XS.i2s X.here hx rfl hd rfl q) h
theorem o_lcmp (X : Stand p l e R s m args below meth c T locs cells slots) (hx : p.tables.exec = Jvm.exec) {pc pc' : Nat} {Ls : Array Slot} {x y : Int64} {rest : List Value} (hd : decode c.code pc = .ok (.lcmp, 1)) (hp : pc + 1 = pc') (h : OG p e below s Q kc ks T (mkF m pc' Ls (.int (lcmpW x y) :: rest))) : OG p e below s Q kc ks T (mkF m pc Ls (.long y :: .long x :: rest)) := by
  subst hp; exact OG.step (fun t q => XS.lcmp X.here hx rfl hd rfl q) h
theorem o_iconst (X : Stand p l e R s m args below meth c T locs cells slots) (hx : p.tables.exec = Jvm.exec) {pc pc' : Nat} {Ls : Array Slot} {i : Int} {rest : List Value} (hd : decode c.code pc = .ok (.iconst i, 1)) (w : Int32) (hv : Int32.ofInt i = w) (hp : pc + 1 = pc') (h : OG p e below s Q kc ks T (mkF m pc' Ls (.int w :: rest))) : OG p e below s Q kc ks T (mkF m pc Ls (rest)) := by
  subst hp hv; exact OG.step (fun t q => XS.iconst X.here hx rfl hd q) h
theorem o_bipush (X : Stand p l e R s m args below meth c T locs cells slots) (hx : p.tables.exec = Jvm.exec) {pc pc' : Nat} {Ls : Array Slot} {i : Int} {rest : List Value} (hd : decode c.code pc = .ok (.bipush i, 2)) (w : Int32) (hv : (Int8.ofInt i).toInt32 = w) (hp : pc + 2 = pc') (h : OG p e below s Q kc ks T (mkF m pc' Ls (.int w :: rest))) : OG p e below s Q kc ks T (mkF m pc Ls (rest)) := by
  subst hp hv; exact OG.step (fun t q => XS.bipush X.here hx rfl hd q) h
theorem o_sipush (X : Stand p l e R s m args below meth c T locs cells slots) (hx : p.tables.exec = Jvm.exec) {pc pc' : Nat} {Ls : Array Slot} {i : Int} {rest : List Value} (hd : decode c.code pc = .ok (.sipush i, 3)) (w : Int32) (hv : (Int16.ofInt i).toInt32 = w) (hp : pc + 3 = pc') (h : OG p e below s Q kc ks T (mkF m pc' Ls (.int w :: rest))) : OG p e below s Q kc ks T (mkF m pc Ls (rest)) := by
  subst hp hv; exact OG.step (fun t q => XS.sipush X.here hx rfl hd q) h
theorem o_lconst (X : Stand p l e R s m args below meth c T locs cells slots) (hx : p.tables.exec = Jvm.exec) {pc pc' : Nat} {Ls : Array Slot} {i : Fin 2} {rest : List Value} (hd : decode c.code pc = .ok (.lconst i, 1)) (w : Int64) (hv : Int64.ofNat i = w) (hp : pc + 1 = pc') (h : OG p e below s Q kc ks T (mkF m pc' Ls (.long w :: rest))) : OG p e below s Q kc ks T (mkF m pc Ls (rest)) := by
  subst hp hv; exact OG.step (fun t q => XS.lconst X.here hx rfl hd q) h
theorem o_aconst_null (X : Stand p l e R s m args below meth c T locs cells slots) (hx : p.tables.exec = Jvm.exec) {pc pc' : Nat} {Ls : Array Slot} {rest : List Value} (hd : decode c.code pc = .ok (.aconst_null, 1)) (hp : pc + 1 = pc') (h : OG p e below s Q kc ks T (mkF m pc' Ls (.null :: rest))) : OG p e below s Q kc ks T (mkF m pc Ls (rest)) := by
  subst hp; exact OG.step (fun t q => XS.aconstNull X.here hx rfl hd q) h
theorem o_iload_n (X : Stand p l e R s m args below meth c T locs cells slots) (hx : p.tables.exec = Jvm.exec) {pc pc' : Nat} {Ls : Array Slot} {i : Fin 4} {x : Int32} {rest : List Value} (hd : decode c.code pc = .ok (.iload_n i, 1)) (hl : Ls[i.val]? = some (.val (.int x))) (hp : pc + 1 = pc') (h : OG p e below s Q kc ks T (mkF m pc' Ls (.int x :: rest))) : OG p e below s Q kc ks T (mkF m pc Ls (rest)) := by
  subst hp; exact OG.step (fun t q => XS.iloadN X.here hx rfl hd hl q) h
theorem o_iload (X : Stand p l e R s m args below meth c T locs cells slots) (hx : p.tables.exec = Jvm.exec) {pc pc' : Nat} {Ls : Array Slot} {i : Nat} {x : Int32} {rest : List Value} (hd : decode c.code pc = .ok (.iload i, 2)) (hl : Ls[i]? = some (.val (.int x))) (hp : pc + 2 = pc') (h : OG p e below s Q kc ks T (mkF m pc' Ls (.int x :: rest))) : OG p e below s Q kc ks T (mkF m pc Ls (rest)) := by
  subst hp; exact OG.step (fun t q => XS.iload X.here hx rfl hd hl q) h
theorem o_lload_n (X : Stand p l e R s m args below meth c T locs cells slots) (hx : p.tables.exec = Jvm.exec) {pc pc' : Nat} {Ls : Array Slot} {i : Fin 4} {x : Int64} {rest : List Value} (hd : decode c.code pc = .ok (.lload_n i, 1)) (hl : Ls[i.val]? = some (.val (.long x))) (hp : pc + 1 = pc') (h : OG p e below s Q kc ks T (mkF m pc' Ls (.long x :: rest))) : OG p e below s Q kc ks T (mkF m pc Ls (rest)) := by
  subst hp; exact OG.step (fun t q => XS.lloadN X.here hx rfl hd hl q) h
theorem o_lload (X : Stand p l e R s m args below meth c T locs cells slots) (hx : p.tables.exec = Jvm.exec) {pc pc' : Nat} {Ls : Array Slot} {i : Nat} {x : Int64} {rest : List Value} (hd : decode c.code pc = .ok (.lload i, 2)) (hl : Ls[i]? = some (.val (.long x))) (hp : pc + 2 = pc') (h : OG p e below s Q kc ks T (mkF m pc' Ls (.long x :: rest))) : OG p e below s Q kc ks T (mkF m pc Ls (rest)) := by
  subst hp; exact OG.step (fun t q => XS.lload X.here hx rfl hd hl q) h
theorem o_aload_n (X : Stand p l e R s m args below meth c T locs cells slots) (hx : p.tables.exec = Jvm.exec) {pc pc' : Nat} {Ls : Array Slot} {i : Fin 4} {x : Value} {rest : List Value} (hd : decode c.code pc = .ok (.aload_n i, 1)) (hl : Ls[i.val]? = some (.val x)) (hv : x.isRef = true) (hp : pc + 1 = pc') (h : OG p e below s Q kc ks T (mkF m pc' Ls (x :: rest))) : OG p e below s Q kc ks T (mkF m pc Ls (rest)) := by
  subst hp; exact OG.step (fun t q => XS.aloadN X.here hx rfl hd hl hv q) h
theorem o_aload (X : Stand p l e R s m args below meth c T locs cells slots) (hx : p.tables.exec = Jvm.exec) {pc pc' : Nat} {Ls : Array Slot} {i : Nat} {x : Value} {rest : List Value} (hd : decode c.code pc = .ok (.aload i, 2)) (hl : Ls[i]? = some (.val x)) (hv : x.isRef = true) (hp : pc + 2 = pc') (h : OG p e below s Q kc ks T (mkF m pc' Ls (x :: rest))) : OG p e below s Q kc ks T (mkF m pc Ls (rest)) := by
  subst hp; exact OG.step (fun t q => XS.aload X.here hx rfl hd hl hv q) h
theorem o_istore_n (X : Stand p l e R s m args below meth c T locs cells slots) (hx : p.tables.exec = Jvm.exec) {pc pc' : Nat} {Ls : Array Slot} {i : Fin 4} {x : Int32} {rest : List Value} (hd : decode c.code pc = .ok (.istore_n i, 1)) (l' : Array Slot) (hl : storeLocals Ls i.val (.int x) = some l') (hp : pc + 1 = pc') (h : OG p e below s Q kc ks T (mkF m pc' l' (rest))) : OG p e below s Q kc ks T (mkF m pc Ls (.int x :: rest)) := by
  subst hp; exact OG.step (fun t q => XS.istoreN X.here hx rfl hd rfl hl q) h
theorem o_istore (X : Stand p l e R s m args below meth c T locs cells slots) (hx : p.tables.exec = Jvm.exec) {pc pc' : Nat} {Ls : Array Slot} {i : Nat} {x : Int32} {rest : List Value} (hd : decode c.code pc = .ok (.istore i, 2)) (l' : Array Slot) (hl : storeLocals Ls i (.int x) = some l') (hp : pc + 2 = pc') (h : OG p e below s Q kc ks T (mkF m pc' l' (rest))) : OG p e below s Q kc ks T (mkF m pc Ls (.int x :: rest)) := by
  subst hp; exact OG.step (fun t q => XS.istore X.here hx rfl hd rfl hl q) h
theorem o_lstore_n (X : Stand p l e R s m args below meth c T locs cells slots) (hx : p.tables.exec = Jvm.exec) {pc pc' : Nat} {Ls : Array Slot} {i : Fin 4} {x : Int64} {rest : List Value} (hd : decode c.code pc = .ok (.lstore_n i, 1)) (l' : Array Slot) (hl : storeLocals Ls i.val (.long x) = some l') (hp : pc + 1 = pc') (h : OG p e below s Q kc ks T (mkF m pc' l' (rest))) : OG p e below s Q kc ks T (mkF m pc Ls (.long x :: rest)) := by
  subst hp; exact OG.step (fun t q => XS.lstoreN X.here hx rfl hd rfl hl q) h
theorem o_lstore (X : Stand p l e R s m args below meth c T locs cells slots) (hx : p.tables.exec = Jvm.exec) {pc pc' : Nat} {Ls : Array Slot} {i : Nat} {x : Int64} {rest : List Value} (hd : decode c.code pc = .ok (.lstore i, 2)) (l' : Array Slot) (hl : storeLocals Ls i (.long x) = some l') (hp : pc + 2 = pc') (h : OG p e below s Q kc ks T (mkF m pc' l' (rest))) : OG p e below s Q kc ks T (mkF m pc Ls (.long x :: rest)) := by
  subst hp; exact OG.step (fun t q => XS.lstore X.here hx rfl hd rfl hl q) h
theorem o_astore_n (X : Stand p l e R s m args below meth c T locs cells slots) (hx : p.tables.exec = Jvm.exec) {pc pc' : Nat} {Ls : Array Slot} {i : Fin 4} {x : Value} {rest : List Value} (hd : decode c.code pc = .ok (.astore_n i, 1)) (hv : x.isRef = true) (l' : Array Slot) (hl : storeLocals Ls i.val x = some l') (hp : pc + 1 = pc') (h : OG p e below s Q kc ks T (mkF m pc' l' (rest))) : OG p e below s Q kc ks T (mkF m pc Ls (x :: rest)) := by
  subst hp; exact OG.step (fun t q => XS.astoreN X.here hx rfl hd rfl hv hl q) h
theorem o_astore (X : Stand p l e R s m args below meth c T locs cells slots) (hx : p.tables.exec = Jvm.exec) {pc pc' : Nat} {Ls : Array Slot} {i : Nat} {x : Value} {rest : List Value} (hd : decode c.code pc = .ok (.astore i, 2)) (hv : x.isRef = true) (l' : Array Slot) (hl : storeLocals Ls i x = some l') (hp : pc + 2 = pc') (h : OG p e below s Q kc ks T (mkF m pc' l' (rest))) : OG p e below s Q kc ks T (mkF m pc Ls (x :: rest)) := by
  subst hp; exact OG.step (fun t q => XS.astore X.here hx rfl hd rfl hv hl q) h
theorem o_iinc (X : Stand p l e R s m args below meth c T locs cells slots) (hx : p.tables.exec = Jvm.exec) {pc pc' : Nat} {Ls : Array Slot} {i : Nat} {k : Int} {x : Int32} {rest : List Value} (hd : decode c.code pc = .ok (.iinc i k, 3)) (w : Int32) (hw' : Int32.ofInt k = w) (hl : Ls[i]? = some (.val (.int x))) (l' : Array Slot) (hl' : storeLocals Ls i (.int (x + w)) = some l') (hp : pc + 3 = pc') (h : OG p e below s Q kc ks T (mkF m pc' l' (rest))) : OG p e below s Q kc ks T (mkF m pc Ls (rest)) := by
  subst hp hw'; exact OG.step (fun t q => XS.iinc X.here hx rfl hd hl hl' q) h
theorem o_dup (X : Stand p l e R s m args below meth c T locs cells slots) (hx : p.tables.exec = Jvm.exec) {pc pc' : Nat} {Ls : Array Slot} {x : Value} {rest : List Value} (hd : decode c.code pc = .ok (.dup, 1)) (hc : x.category = 1) (hp : pc + 1 = pc') (h : OG p e below s Q kc ks T (mkF m pc' Ls (x :: x :: rest))) : OG p e below s Q kc ks T (mkF m pc Ls (x :: rest)) := by
  subst hp; exact OG.step (fun t q => XS.dup X.here hx rfl hd rfl hc q) h
theorem o_pop (X : Stand p l e R s m args below meth c T locs cells slots) (hx : p.tables.exec = Jvm.exec) {pc pc' : Nat} {Ls : Array Slot} {x : Value} {rest : List Value} (hd : decode c.code pc = .ok (.pop, 1)) (hc : x.category = 1) (hp : pc + 1 = pc') (h : OG p e below s Q kc ks T (mkF m pc' Ls (rest))) : OG p e below s Q kc ks T (mkF m pc Ls (x :: rest)) := by
  subst hp; exact OG.step (fun t q => XS.pop X.here hx rfl hd rfl hc q) h
theorem o_dup_x1 (X : Stand p l e R s m args below meth c T locs cells slots) (hx : p.tables.exec = Jvm.exec) {pc pc' : Nat} {Ls : Array Slot} {x y : Value} {rest : List Value} (hd : decode c.code pc = .ok (.dup_x1, 1)) (hc : x.category = 1) (hc2 : y.category = 1) (hp : pc + 1 = pc') (h : OG p e below s Q kc ks T (mkF m pc' Ls (x :: y :: x :: rest))) : OG p e below s Q kc ks T (mkF m pc Ls (x :: y :: rest)) := by
  subst hp; exact OG.step (fun t q => XS.dupX1 X.here hx rfl hd rfl hc hc2 q) h
theorem o_goto (X : Stand p l e R s m args below meth c T locs cells slots) (hx : p.tables.exec = Jvm.exec) {pc pc' : Nat} {Ls : Array Slot} {rest : List Value} {o : Int} (hd : decode c.code pc = .ok (.goto o, 3)) (ho : 0 ≤ (pc : Int) + o) (hp : ((pc : Int) + o).toNat = pc') (h : OG p e below s Q kc ks T (mkF m pc' Ls rest)) : OG p e below s Q kc ks T (mkF m pc Ls rest) :=
  OG.step (fun t q => XS.goto X.here hx rfl rfl hd ho hp q) h
theorem o_ifYes (X : Stand p l e R s m args below meth c T locs cells slots) (hx : p.tables.exec = Jvm.exec) {pc pc' : Nat} {Ls : Array Slot} {rest : List Value} {o : Int} {cd : ClassFile.Cond} {x : Int32} (hd : decode c.code pc = .ok (.ifCond cd o, 3)) (hc : ifCond.holds cd x = true) (ho : 0 ≤ (pc : Int) + o) (hp : ((pc : Int) + o).toNat = pc') (h : OG p e below s Q kc ks T (mkF m pc' Ls rest)) : OG p e below s Q kc ks T (mkF m pc Ls (.int x :: rest)) :=
  OG.step (fun t q => XS.ifYes X.here hx rfl rfl hd rfl hc ho hp q) h
theorem o_ifNo (X : Stand p l e R s m args below meth c T locs cells slots) (hx : p.tables.exec = Jvm.exec) {pc pc' : Nat} {Ls : Array Slot} {rest : List Value} {o : Int} {cd : ClassFile.Cond} {x : Int32} (hd : decode c.code pc = .ok (.ifCond cd o, 3)) (hc : ifCond.holds cd x = false) (hp : pc + 3 = pc') (h : OG p e below s Q kc ks T (mkF m pc' Ls rest)) : OG p e below s Q kc ks T (mkF m pc Ls (.int x :: rest)) := by
  subst hp; exact OG.step (fun t q => XS.ifNo X.here hx rfl hd rfl hc q) h
theorem o_icmpYes (X : Stand p l e R s m args below meth c T locs cells slots) (hx : p.tables.exec = Jvm.exec) {pc pc' : Nat} {Ls : Array Slot} {rest : List Value} {o : Int} {cd : ClassFile.Cond} {x y : Int32} (hd : decode c.code pc = .ok (.if_icmp cd o, 3)) (hc : if_icmp.holds cd x y = true) (ho : 0 ≤ (pc : Int) + o) (hp : ((pc : Int) + o).toNat = pc') (h : OG p e below s Q kc ks T (mkF m pc' Ls rest)) : OG p e below s Q kc ks T (mkF m pc Ls (.int y :: .int x :: rest)) :=
  OG.step (fun t q => XS.icmpYes X.here hx rfl rfl hd rfl hc ho hp q) h
theorem o_icmpNo (X : Stand p l e R s m args below meth c T locs cells slots) (hx : p.tables.exec = Jvm.exec) {pc pc' : Nat} {Ls : Array Slot} {rest : List Value} {o : Int} {cd : ClassFile.Cond} {x y : Int32} (hd : decode c.code pc = .ok (.if_icmp cd o, 3)) (hc : if_icmp.holds cd x y = false) (hp : pc + 3 = pc') (h : OG p e below s Q kc ks T (mkF m pc' Ls rest)) : OG p e below s Q kc ks T (mkF m pc Ls (.int y :: .int x :: rest)) := by
  subst hp; exact OG.step (fun t q => XS.icmpNo X.here hx rfl hd rfl hc q) h
theorem o_ifnonnullYes (X : Stand p l e R s m args below meth c T locs cells slots) (hx : p.tables.exec = Jvm.exec) {pc pc' : Nat} {Ls : Array Slot} {rest : List Value} {o : Int} {b : Addr} (hd : decode c.code pc = .ok (.ifnonnull o, 3)) (ho : 0 ≤ (pc : Int) + o) (hp : ((pc : Int) + o).toNat = pc') (h : OG p e below s Q kc ks T (mkF m pc' Ls rest)) : OG p e below s Q kc ks T (mkF m pc Ls (.ref b :: rest)) :=
  OG.step (fun t q => XS.ifnonnullYes X.here hx rfl rfl hd rfl ho hp q) h
theorem o_ifnonnullNo (X : Stand p l e R s m args below meth c T locs cells slots) (hx : p.tables.exec = Jvm.exec) {pc pc' : Nat} {Ls : Array Slot} {rest : List Value} {o : Int} (hd : decode c.code pc = .ok (.ifnonnull o, 3)) (hp : pc + 3 = pc') (h : OG p e below s Q kc ks T (mkF m pc' Ls rest)) : OG p e below s Q kc ks T (mkF m pc Ls (.null :: rest)) := by
  subst hp; exact OG.step (fun t q => XS.ifnonnullNo X.here hx rfl hd rfl q) h
theorem o_ldcInt (X : Stand p l e R s m args below meth c T locs cells slots) (hx : p.tables.exec = Jvm.exec) {pc pc' : Nat} {Ls : Array Slot} {rest : List Value} {Z : State} {a0 : Array Value} {own : String} {i : Nat} {v : Int32} (hZ : Z.Warmed39 s.vm) (hown : s.vm.findClass own = some m.cls) (hd : decode c.code pc = .ok (.ldc i, 2)) (hk : (Cond.constant own i v).before a0 Z = true) (hp : pc + 2 = pc') (h : OG p e below s Q kc ks T (mkF m pc' Ls (.int v :: rest))) : OG p e below s Q kc ks T (mkF m pc Ls rest) := by
  subst hp; exact OG.step (fun t q => X.ldcInt hx hown (mvT hZ hk) (g := mkF m pc Ls rest) rfl hd t q) h
theorem o_ldc2Long (X : Stand p l e R s m args below meth c T locs cells slots) (hx : p.tables.exec = Jvm.exec) {pc pc' : Nat} {Ls : Array Slot} {rest : List Value} {Z : State} {a0 : Array Value} {own : String} {i : Nat} {v : Int64} (hZ : Z.Warmed39 s.vm) (hown : s.vm.findClass own = some m.cls) (hd : decode c.code pc = .ok (.ldc2_w i, 3)) (hk : (Cond.constantLong own i v).before a0 Z = true) (hp : pc + 3 = pc') (h : OG p e below s Q kc ks T (mkF m pc' Ls (.long v :: rest))) : OG p e below s Q kc ks T (mkF m pc Ls rest) := by
  subst hp; exact OG.step (fun t q => X.ldc2Long hx hown (mvT hZ hk) (g := mkF m pc Ls rest) rfl hd t q) h
theorem o_retI (X : Stand p l e R s m args below meth c T locs cells slots) (hx : p.tables.exec = Jvm.exec) (hlk : meth.locks = false) {pc : Nat} {Ls : Array Slot} {rest : List Value} {z : Int32} (hret : meth.sig.returnType = some .int) (hd : decode c.code pc = .ok (.ireturn, 1)) (hQ : Q (some (.int z)) T.heap locs) (h1 : cells ≤ kc) (h2 : slots ≤ ks) : OG p e below s Q kc ks T (mkF m pc Ls (.int z :: rest)) := by
  obtain ⟨fs, hr, hrun, hended, hW, hsame⟩ := X.leave (v := some (.int z)) (fun h => by rw [hret] at h; cases h) hlk
  exact ⟨_, _, retI X hx hret hd hr, hrun, hended, _, _, rfl, hQ, ⟨_, rfl⟩, hW, hsame.mono h1 h2⟩
theorem o_retJ (X : Stand p l e R s m args below meth c T locs cells slots) (hx : p.tables.exec = Jvm.exec) (hlk : meth.locks = false) {pc : Nat} {Ls : Array Slot} {rest : List Value} {z : Int64} (hret : meth.sig.returnType = some .long) (hd : decode c.code pc = .ok (.lreturn, 1)) (hQ : Q (some (.long z)) T.heap locs) (h1 : cells ≤ kc) (h2 : slots ≤ ks) : OG p e below s Q kc ks T (mkF m pc Ls (.long z :: rest)) := by
  obtain ⟨fs, hr, hrun, hended, hW, hsame⟩ := X.leave (v := some (.long z)) (fun h => by rw [hret] at h; cases h) hlk
  exact ⟨_, _, retJ X hx hret hd hr, hrun, hended, _, _, rfl, hQ, ⟨_, rfl⟩, hW, hsame.mono h1 h2⟩
theorem o_retN (X : Stand p l e R s m args below meth c T locs cells slots) (hx : p.tables.exec = Jvm.exec) (hlk : meth.locks = false) {pc : Nat} {Ls : Array Slot} {rest : List Value} {z w : Int32} {t : FieldType} (ht : t = .boolean ∨ t = .byte ∨ t = .char ∨ t = .short) (hret : meth.sig.returnType = some t) (hd : decode c.code pc = .ok (.ireturn, 1)) (hz : nar t z = w) (hQ : Q (some (.int w)) T.heap locs) (h1 : cells ≤ kc) (h2 : slots ≤ ks) : OG p e below s Q kc ks T (mkF m pc Ls (.int z :: rest)) := by
  subst hz
  obtain ⟨fs, hr, hrun, hended, hW, hsame⟩ := X.leave (v := some (.int (nar t z))) (fun h => by rw [hret] at h; cases h) hlk
  exact ⟨_, _, retN X hx hret ht hd hr, hrun, hended, _, _, rfl, hQ, ⟨_, rfl⟩, hW, hsame.mono h1 h2⟩
theorem o_ret (X : Stand p l e R s m args below meth c T locs cells slots) (hx : p.tables.exec = Jvm.exec) (hlk : meth.locks = false) {pc : Nat} {Ls : Array Slot} (hret : meth.sig.returnType = none) (hd : decode c.code pc = .ok (.return_, 1)) (hQ : Q none T.heap locs) (h1 : cells ≤ kc) (h2 : slots ≤ ks) : OG p e below s Q kc ks T (mkF m pc Ls []) := by
  obtain ⟨fs, hr, hrun, hended, hW, hsame⟩ := X.leave (v := none) (fun _ => rfl) hlk
  exact ⟨_, _, X.returnOut hx hret hd hr, hrun, hended, _, _, rfl, hQ, ⟨_, rfl⟩, hW, hsame.mono h1 h2⟩
variable {Z : State} {a0 : Array Value} {h : Heap}
theorem o_callS (X : Stand p l e R s m args below meth c T locs cells slots) (hx : p.tables.exec = Jvm.exec) (hZ : Z.Warmed39 s.vm) {own : String} {index : Nat} {y : MethodName} {bytes : ByteArray} {maxL : Nat} {ret : Option FieldType} {rm : Room} {Qc : Option Value → Heap → List Loc → Prop} {argsL rest st : List Value} {pc pc' : Nat} {Ls : Array Slot} (W : Nat)
    (hown : s.vm.findClass own = some m.cls) (eT : T.heap = h) (hlink : (Cond.methodLink own index y).before a0 Z = true) (hstat : (Cond.static y).before a0 Z = true) (hinit : (Cond.initialized y.cls).before a0 Z = true) (hcode : (Cond.code y bytes maxL ret).before a0 Z = true) (hy : y.cls ≠ "java/lang/invoke/MethodHandle" ∧ y.cls ≠ "java/lang/invoke/VarHandle")
    (hM : MetFree l y (head1 [Cond.code y bytes maxL ret] rm) (fun a U => a = argsL.toArray ∧ Z.Warmed39 U.vm ∧ U.heap = h) (fun _ _ _ _ _ => True) (fun _ U o U' => ∃ v L, o = .returned v ∧ Qc v U'.heap L ∧ FrameEnd U o U' L rm.cells rm.slots)) (hf : rm.frames + 1 ≤ R.frames) (hl : W + (maxL + 11) + rm.locals ≤ R.locals)
    (hsize : Ls.size = c.maxLocals) (hlen : ∀ sig, parseMethodDescriptor y.desc = some sig → argsL.length = sig.parameters.length) (hs : st = argsL.reverse ++ rest) (hW : (rest.map fun v => v.category).sum ≤ W) (hd : decode c.code pc = .ok (.invokestatic index, 3)) (hp : pc + 3 = pc') (hc : cells + rm.cells ≤ R.cells) (hsl : slots + rm.slots ≤ R.slots)
    (k : ∀ v T' L, Stand p l e R s m args below meth c T' (locs ++ L) (cells + rm.cells) (slots + rm.slots) → Qc v T'.heap L → OG p e below s Q kc ks T' (mkF m pc' Ls (v.toList ++ rest))) : OG p e below s Q kc ks T (mkF m pc Ls st) := by
  subst hp hs
  obtain ⟨v, vm₁, ⟨T1, L1, c1, n1⟩, -, X1, ⟨Lc, hQ, l1, y1, z1⟩, st⟩ := Jvm.LawKit.callS X hx (y := y) hown (mvT hZ hlink) (mvT hZ hstat) (mvT hZ hinit) (mvT hZ hcode) hy (backOf (W := W) hM hZ hcode hinit hf hl) (g := mkF m pc Ls (argsL.reverse ++ rest)) rfl hsize (argsL := argsL) (rest := rest) hlen rfl (by show 2 * 0 + _ ≤ _; omega) hd (fun _ _ => ⟨rfl, eT, hc, hsl⟩)
  dsimp only [Pt.U, Pt.locs, Pt.cells, Pt.slots] at X1 l1 y1 z1 st hQ
  subst l1 y1 z1
  exact OG.step st (k v T1 Lc X1 hQ)
theorem o_special (X : Stand p l e R s m args below meth c T locs cells slots) (hx : p.tables.exec = Jvm.exec) (hZ : Z.Warmed39 s.vm) {own : String} {index : Nat} {y : MethodName} {bytes : ByteArray} {maxL : Nat} {rm : Room} {Qc : Option Value → Heap → List Loc → Prop} {a : Addr} {argsL rest st : List Value} {pc pc' : Nat} {Ls : Array Slot} (W : Nat) (hy1 : y.name = "<init>")
    (hown : s.vm.findClass own = some m.cls) (eT : T.heap = h) (hlink : (Cond.methodLink own index y).before a0 Z = true) (hinst : (Cond.instanceMethod y).before a0 Z = true) (hinit : (Cond.initialized y.cls).before a0 Z = true) (hcode : (Cond.code y bytes maxL none).before a0 Z = true) (hy : y.cls ≠ "java/lang/invoke/MethodHandle" ∧ y.cls ≠ "java/lang/invoke/VarHandle")
    (hM : MetFree l y (head1 [Cond.code y bytes maxL none] rm) (fun b U => b = (.ref a :: argsL).toArray ∧ Z.Warmed39 U.vm ∧ U.heap = h) (fun _ _ _ _ _ => True) (fun _ U o U' => ∃ v L, o = .returned v ∧ Qc v U'.heap L ∧ FrameEnd U o U' L rm.cells rm.slots)) (hf : rm.frames + 1 ≤ R.frames) (hl : W + (maxL + 11) + rm.locals ≤ R.locals)
    (hsize : Ls.size = c.maxLocals) (hlen : ∀ sig, parseMethodDescriptor y.desc = some sig → argsL.length = sig.parameters.length) (hs : st = argsL.reverse ++ .ref a :: rest) (hW : (rest.map fun v => v.category).sum ≤ W) (hd : decode c.code pc = .ok (.invokespecial index, 3)) (hp : pc + 3 = pc') (hc : cells + rm.cells ≤ R.cells) (hsl : slots + rm.slots ≤ R.slots)
    (k : ∀ v T' L, Stand p l e R s m args below meth c T' (locs ++ L) (cells + rm.cells) (slots + rm.slots) → Qc v T'.heap L → OG p e below s Q kc ks T' (mkF m pc' Ls (v.toList ++ rest))) : OG p e below s Q kc ks T (mkF m pc Ls st) := by
  subst hp hs
  obtain ⟨v, vm₁, ⟨T1, L1, c1, n1⟩, -, X1, ⟨Lc, hQ, l1, y1, z1⟩, st⟩ := X.specialBack hx (y := y) hy1 hown (mvT hZ hlink) (mvT hZ hinst) (mvT hZ hcode) hy (backOf (W := W) hM hZ hcode hinit hf hl) (g := mkF m pc Ls (argsL.reverse ++ .ref a :: rest)) rfl hsize (Steps.refl _) (a := a) (argsL := argsL) (rest := rest) hlen rfl (by show 2 * 0 + _ ≤ _; omega) hd (fun _ _ => ⟨rfl, eT, hc, hsl⟩)
  dsimp only [Pt.U, Pt.locs, Pt.cells, Pt.slots] at X1 l1 y1 z1 st hQ
  subst l1 y1 z1
  exact OG.step (fun t q => st.trans q) (k v T1 Lc X1 hQ)
theorem o_virtual (X : Stand p l e R s m args below meth c T locs cells slots) (hx : p.tables.exec = Jvm.exec) (hZ : Z.Warmed39 s.vm) {own C : String} {index : Nat} {y : MethodName} {bytes : ByteArray} {maxL : Nat} {ret : Option FieldType} {rm : Room} {Qc : Option Value → Heap → List Loc → Prop} {a : Addr} {argsL rest st : List Value} {pc pc' : Nat} {Ls : Array Slot} (W : Nat)
    (hown : s.vm.findClass own = some m.cls) (eT : T.heap = h) (hlink : (Cond.methodLink own index y).before a0 Z = true) (hdecl : (Cond.declares y).before a0 Z = true) (hsel : (Cond.selects C y y).before a0 Z = true) (hinst : (Cond.instanceMethod y).before a0 Z = true) (hinit : (Cond.initialized y.cls).before a0 Z = true) (hcode : (Cond.code y bytes maxL ret).before a0 Z = true) (hy : y.cls ≠ "java/lang/invoke/MethodHandle" ∧ y.cls ≠ "java/lang/invoke/VarHandle")
    (E : Exa Z h a C)
    (hM : MetFree l y (head1 [Cond.code y bytes maxL ret] rm) (fun b U => b = (.ref a :: argsL).toArray ∧ Z.Warmed39 U.vm ∧ U.heap = h) (fun _ _ _ _ _ => True) (fun _ U o U' => ∃ v L, o = .returned v ∧ Qc v U'.heap L ∧ FrameEnd U o U' L rm.cells rm.slots)) (hf : rm.frames + 1 ≤ R.frames) (hl : W + (maxL + 11) + rm.locals ≤ R.locals)
    (hsize : Ls.size = c.maxLocals) (hlen : ∀ sig, parseMethodDescriptor y.desc = some sig → argsL.length = sig.parameters.length) (hs : st = argsL.reverse ++ .ref a :: rest) (hW : (rest.map fun v => v.category).sum ≤ W) (hd : decode c.code pc = .ok (.invokevirtual index, 3)) (hp : pc + 3 = pc') (hc : cells + rm.cells ≤ R.cells) (hsl : slots + rm.slots ≤ R.slots)
    (k : ∀ v T' L, Stand p l e R s m args below meth c T' (locs ++ L) (cells + rm.cells) (slots + rm.slots) → Qc v T'.heap L → OG p e below s Q kc ks T' (mkF m pc' Ls (v.toList ++ rest))) : OG p e below s Q kc ks T (mkF m pc Ls st) := by
  subst hp hs
  obtain ⟨cq, kq, qa, qb, qc⟩ := isOf hZ eT E
  obtain ⟨v, vm₁, ⟨T1, L1, c1, n1⟩, -, X1, ⟨Lc, hQ, l1, y1, z1⟩, st⟩ := X.virtualBack hx (y := y) (z := y) hown (mvT hZ hlink) (mvT hZ hdecl) (notFace_of_selects (args := #[]) (mvT hZ hsel)) (mvT hZ hsel) (mvT hZ hinst) hy (backOf (W := W) hM hZ hcode hinit hf hl) qa qc (g := mkF m pc Ls (argsL.reverse ++ .ref a :: rest)) rfl hsize (Steps.refl _) (argsL := argsL) (rest := rest) hlen rfl (by show 2 * 0 + _ ≤ _; omega) hd (fun _ _ => ⟨rfl, eT, hc, hsl⟩)
  dsimp only [Pt.U, Pt.locs, Pt.cells, Pt.slots] at X1 l1 y1 z1 st hQ
  subst l1 y1 z1
  exact OG.step (fun t q => st.trans q) (k v T1 Lc X1 hQ)
theorem o_new (X : Stand p l e R s m args below meth c T locs cells slots) (hx : p.tables.exec = Jvm.exec) (hZ : Z.Warmed39 s.vm) {own C : String} {index n : Nat} {pc pc' : Nat} {Ls : Array Slot} {rest : List Value} (hown : s.vm.findClass own = some m.cls) (eT : T.heap = h) (w : (Cond.classLink own index C).before a0 Z = true) (wi : (Cond.instantiable C n).before a0 Z = true) (wz : (Cond.initialized C).before a0 Z = true) (hd : decode c.code pc = .ok (.new index, 3)) (hp : pc + 3 = pc') (hc : cells + 1 ≤ R.cells) (hl : slots + n ≤ R.slots)
    (k : ∀ T' h' a, Stand p l e R s m args below meth c T' locs (cells + 1) (slots + n) → T'.heap = h' → a = h.size → Ext h h' → Exa Z h' a C → (∀ {O nm d : String} {ty : FieldType}, Laid Z a0 C O nm d → parseFieldDescriptor d = some ty → Fld Z h' a O nm d (defaultValue ty)) → OG p e below s Q kc ks T' (mkF m pc' Ls (.ref a :: rest))) : OG p e below s Q kc ks T (mkF m pc Ls rest) := by
  subst hp
  obtain ⟨T2, h2, X2, e2, E2, A2, D2, -, st2⟩ := newO X hx hZ hown w wi wz eT (g := mkF m pc Ls rest) rfl hd hc hl
  exact OG.step st2 (k T2 h2 _ X2 e2 rfl E2 A2 D2)
theorem o_initO (X : Stand p l e R s m args below meth c T locs cells slots) (hx : p.tables.exec = Jvm.exec) (hZ : Z.Warmed39 s.vm) {own : String} {index : Nat} {a : Addr} {pc pc' : Nat} {Ls : Array Slot} {rest : List Value} (W : Nat) (hown : s.vm.findClass own = some m.cls) (eT : T.heap = h)
    (w1 : (Cond.methodLink own index Lib.objectInit).before a0 Z = true) (w2 : (Cond.instanceMethod Lib.objectInit).before a0 Z = true) (w3 : (Cond.code Lib.objectInit object_method_1_code 1 none).before a0 Z = true) (hsize : Ls.size = c.maxLocals) (hd : decode c.code pc = .ok (.invokespecial index, 3)) (hf : 1 ≤ R.frames) (hW : (rest.map fun v => v.category).sum ≤ W) (hl : W + 12 ≤ R.locals) (hp : pc + 3 = pc')
    (k : ∀ T', Stand p l e R s m args below meth c T' locs cells slots → T'.heap = h → OG p e below s Q kc ks T' (mkF m pc' Ls rest)) : OG p e below s Q kc ks T (mkF m pc Ls (.ref a :: rest)) := by
  subst hp
  obtain ⟨T1, X1, e1, st1⟩ := initO X hx hZ hown w1 w2 w3 eT (g := mkF m pc Ls (.ref a :: rest)) rfl hsize rfl hd hf (W := W) (by show 2 * 0 + _ ≤ _; omega) hl
  exact OG.step st1 (k T1 X1 e1)
theorem o_getF (X : Stand p l e R s m args below meth c T locs cells slots) (hx : p.tables.exec = Jvm.exec) (hZ : Z.Warmed39 s.vm) {own R0 O n d : String} {index : Nat} {a : Addr} {v : Value} {pc pc' : Nat} {Ls : Array Slot} {rest : List Value} (hown : s.vm.findClass own = some m.cls) (eT : T.heap = h) (w : (Cond.fieldLink own index R0 n d).before a0 Z = true) (via : Via Z R0 O n d) (F : Fld Z h a O n d v) (hd : decode c.code pc = .ok (.getfield index, 3)) (hp : pc + 3 = pc')
    (k : ∀ T', Stand p l e R s m args below meth c T' locs cells slots → T'.heap = h → OG p e below s Q kc ks T' (mkF m pc' Ls (v :: rest))) : OG p e below s Q kc ks T (mkF m pc Ls (.ref a :: rest)) := by
  subst hp
  obtain ⟨T1, X1, e1, st1⟩ := getF X hx hZ hown (host := "") (Or.inl w) via eT F (g := mkF m pc Ls (.ref a :: rest)) rfl rfl hd
  exact OG.step st1 (k T1 X1 e1)
theorem o_putF (X : Stand p l e R s m args below meth c T locs cells slots) (hx : p.tables.exec = Jvm.exec) (hZ : Z.Warmed39 s.vm) {own R0 O n d C : String} {index kk : Nat} {ty : FieldType} {a : Addr} {v old : Value} {pc pc' : Nat} {Ls : Array Slot} {rest : List Value} (hown : s.vm.findClass own = some m.cls) (eT : T.heap = h) (w : (Cond.fieldLink own index R0 n d).before a0 Z = true) (via : Via Z R0 O n d) (F : Fld Z h a O n d old) (E : Exa Z h a C)
    (L : (Cond.lays C O n d).before a0 Z = true ∨ ((Cond.laysFinal C O n d).before a0 Z = true ∧ own = O ∧ meth.name = "<init>")) (wi : (Cond.instantiable C kk).before a0 Z = true) (hty : parseFieldDescriptor d = some ty) (hn : narrow ty v = v) (hf : fits ty v = true) (hd : decode c.code pc = .ok (.putfield index, 3)) (hp : pc + 3 = pc')
    (k : ∀ T' h', Stand p l e R s m args below meth c T' (locs ++ [⟨a, RoadKit.slotOf Z O n d⟩]) cells slots → T'.heap = h' → Wr h h' a (RoadKit.slotOf Z O n d) v → OG p e below s Q kc ks T' (mkF m pc' Ls rest)) : OG p e below s Q kc ks T (mkF m pc Ls (v :: .ref a :: rest)) := by
  subst hp
  obtain ⟨T1, h1, X1, e1, W1, st1⟩ := putF X hx hZ hown (host := "") (Or.inl w) via eT F E L wi hty hn hf (g := mkF m pc Ls (v :: .ref a :: rest)) rfl rfl hd
  exact OG.step st1 (k T1 h1 X1 e1 W1)
theorem z_tlt {x : Int32} (h : x < 0) : ifCond.holds .lt x = true ∧ ifCond.holds .ge x = false := ⟨(if0 _ _).trans (tlt h).1, (if0 _ _).trans (tlt h).2.1⟩
theorem z_flt {x : Int32} (h : ¬ x < 0) : ifCond.holds .lt x = false ∧ ifCond.holds .ge x = true := ⟨(if0 _ _).trans (flt h).1, (if0 _ _).trans (flt h).2.1⟩
theorem z_tgt {x : Int32} (h : 0 < x) : ifCond.holds .gt x = true ∧ ifCond.holds .le x = false := ⟨(if0 _ _).trans (tlt h).2.2.1, (if0 _ _).trans (tlt h).2.2.2⟩
theorem z_fgt {x : Int32} (h : ¬ 0 < x) : ifCond.holds .gt x = false ∧ ifCond.holds .le x = true := ⟨(if0 _ _).trans (flt h).2.2.1, (if0 _ _).trans (flt h).2.2.2⟩
theorem z_teq {x : Int32} (h : x = 0) : ifCond.holds .eq x = true ∧ ifCond.holds .ne x = false := ⟨(if0 _ _).trans (teq h).1, (if0 _ _).trans (teq h).2⟩
theorem z_feq {x : Int32} (h : ¬ x = 0) : ifCond.holds .eq x = false ∧ ifCond.holds .ne x = true := ⟨(if0 _ _).trans (feq h).1, (if0 _ _).trans (feq h).2⟩
theorem c_tlt {x y : Int32} (h : x < y) : if_icmp.holds .lt x y = true ∧ if_icmp.holds .ge x y = false := ⟨(tlt h).1, (tlt h).2.1⟩
theorem c_flt {x y : Int32} (h : ¬ x < y) : if_icmp.holds .lt x y = false ∧ if_icmp.holds .ge x y = true := ⟨(flt h).1, (flt h).2.1⟩
theorem c_tgt {x y : Int32} (h : y < x) : if_icmp.holds .gt x y = true ∧ if_icmp.holds .le x y = false := ⟨(tlt h).2.2.1, (tlt h).2.2.2⟩
theorem c_fgt {x y : Int32} (h : ¬ y < x) : if_icmp.holds .gt x y = false ∧ if_icmp.holds .le x y = true := ⟨(flt h).2.2.1, (flt h).2.2.2⟩
theorem c_teq {x y : Int32} (h : x = y) : if_icmp.holds .eq x y = true ∧ if_icmp.holds .ne x y = false := teq h
theorem c_feq {x y : Int32} (h : ¬ x = y) : if_icmp.holds .eq x y = false ∧ if_icmp.holds .ne x y = true := feq h
theorem l_tlt {x y : Int64} (h : x < y) : ifCond.holds .lt (lcmpW x y) = true ∧ ifCond.holds .ge (lcmpW x y) = false := z_tlt ((lw_lt x y).mpr h)
theorem l_flt {x y : Int64} (h : ¬ x < y) : ifCond.holds .lt (lcmpW x y) = false ∧ ifCond.holds .ge (lcmpW x y) = true := z_flt (fun q => h ((lw_lt x y).mp q))
theorem l_tgt {x y : Int64} (h : y < x) : ifCond.holds .gt (lcmpW x y) = true ∧ ifCond.holds .le (lcmpW x y) = false := z_tgt ((lw_gt x y).mpr h)
theorem l_fgt {x y : Int64} (h : ¬ y < x) : ifCond.holds .gt (lcmpW x y) = false ∧ ifCond.holds .le (lcmpW x y) = true := z_fgt (fun q => h ((lw_gt x y).mp q))
theorem l_teq {x y : Int64} (h : x = y) : ifCond.holds .eq (lcmpW x y) = true ∧ ifCond.holds .ne (lcmpW x y) = false := z_teq ((lw_eq x y).mpr h)
theorem l_feq {x y : Int64} (h : ¬ x = y) : ifCond.holds .eq (lcmpW x y) = false ∧ ifCond.holds .ne (lcmpW x y) = true := z_feq (fun q => h ((lw_eq x y).mp q))
end Own
section OwnA
variable {p : Program} {l : Launch} {e : Env} {R : Room} {s : State} {m : MethodId} {args : Array Value} {below : List Frame} {meth : Method} {c : Code} {T : State} {locs : List Loc} {cells slots : Nat} {Q : Option Value → Heap → List Loc → Prop} {kc ks : Nat} {Z : State} {a0 : Array Value} {h h' : Heap} {a b : Addr} {ty : FieldType} {n : Nat} {f : Nat → Value}
/-- an array of n values: the i-th is f i -/
def OAr (Z : State) (h : Heap) (a : Addr) (ty : FieldType) (n : Nat) (f : Nat → Value) : Prop := ∃ c : Cell, Arr Z h a c ty ∧ c.slots.size = n ∧ ∀ i, i < n → c.slots[i]? = some (f i)
theorem OAr.ext (E : Ext h h') (F : OAr Z h b ty n f) : OAr Z h' b ty n f := by obtain ⟨c, A, r⟩ := F; exact ⟨c, A.ext E, r⟩
theorem OAr.other {sl : Nat} {v : Value} (W : Wr h h' a sl v) (F : OAr Z h b ty n f) (q : b ≠ a) : OAr Z h' b ty n f := by obtain ⟨c, A, r⟩ := F; exact ⟨c, A.other W q, r⟩
theorem OAr.keep {ws : List Addr} (F : OAr Z h b ty n f) (K : Keep h h' ws) (q : b ∉ ws) : OAr Z h' b ty n f := by obtain ⟨c, A, r⟩ := F; exact ⟨c, ⟨K.2.1 b c A.1 q, A.2⟩, r⟩
theorem OAr.lt (F : OAr Z h a ty n f) : a < h.size := by obtain ⟨c, A, -⟩ := F; exact A.lt
theorem OAr.cg {g : Nat → Value} (F : OAr Z h a ty n f) (q : ∀ i, i < n → g i = f i) : OAr Z h a ty n g := by obtain ⟨c, A, r, H⟩ := F; exact ⟨c, A, r, fun i hi => by rw [q i hi]; exact H i hi⟩
theorem OAr.same {j : Nat} {v : Value} (W : Wr h h' a j v) (F : OAr Z h a ty n f) : OAr Z h' a ty n (fun i => if i = j then v else f i) := by
  obtain ⟨c, A, r, H⟩ := F
  refine ⟨_, Arr.same W A, by simp [Cell.setSlot, r], fun i hi => ?_⟩
  obtain ⟨c', h1, -, h3, -⟩ := W
  have hlt : j < c.slots.size := by have := h1.symm.trans A.1; cases this; exact h3
  simp only [Cell.setSlot]
  rw [Array.getElem?_setIfInBounds]
  by_cases q : j = i
  · subst q; simp [hlt]
  · rw [if_neg q, if_neg (fun z => q z.symm)]; exact H i hi
theorem OAr.new {k : ClassId} {z : Int32} (A : Arr Z h a (newA k ty z) ty) : OAr Z h a ty z.toNatClampNeg (fun _ => defaultValue ty) :=
  ⟨_, A, sz_new _ _ _, fun i hi => by simp [newA, hi]⟩
/-- the first values by a list -/
def lk (vs : List Value) (k : Nat) : Value := vs.getD k .null
theorem OAr.setL {vs : List Value} {j : Nat} {v : Value} (W : Wr h h' a j v) (F : OAr Z h a ty n (lk vs)) (hj : j < vs.length) : OAr Z h' a ty n (lk (vs.set j v)) :=
  (OAr.same W F).cg fun i hi => by
    unfold lk
    by_cases q : i = j
    · subst q; simp [hj]
    · simp only [List.getD_eq_getElem?_getD, List.getElem?_set, if_neg q, if_neg (fun z : j = i => q z.symm)]
theorem o_alen (X : Stand p l e R s m args below meth c T locs cells slots) (hx : p.tables.exec = Jvm.exec) (hZ : Z.Warmed39 s.vm) {pc pc' : Nat} {Ls : Array Slot} {rest : List Value} (eT : T.heap = h) (F : OAr Z h a ty n f) (hd : decode c.code pc = .ok (.arraylength, 1)) (z : Int32) (hz : n.toInt32 = z) (hp : pc + 1 = pc') (k : OG p e below s Q kc ks T (mkF m pc' Ls (.int z :: rest))) : OG p e below s Q kc ks T (mkF m pc Ls (.ref a :: rest)) := by
  subst hp hz
  obtain ⟨cl, A, r, H⟩ := F
  exact OG.step (fun t q => X.arraylength hx (by rw [eT]; exact A.1) (State.isArrayOf_alike hZ.alike A.2.1) (g := mkF m pc Ls (.ref a :: rest)) rfl rfl hd t (by rw [r]; exact q)) k
theorem o_newarr (X : Stand p l e R s m args below meth c T locs cells slots) (hx : p.tables.exec = Jvm.exec) (hZ : Z.Warmed39 s.vm) {pc pc' : Nat} {Ls : Array Slot} {rest : List Value} {aty : ArrayType} {z : Int32} (eT : T.heap = h) (w : (Cond.arrayClass (newarray.typeOf aty)).before a0 Z = true) (hd : decode c.code pc = .ok (.newarray aty, 2)) (hn : ¬ z < 0) (cap : Nat) (hcap : z.toNatClampNeg ≤ cap) (hb : cap * 8 ≤ 536870912) (hc : cells + 1 ≤ R.cells) (hl : slots + cap ≤ R.slots) (hp : pc + 2 = pc')
    (k : ∀ T' h' a, Stand p l e R s m args below meth c T' locs (cells + 1) (slots + cap) → T'.heap = h' → a = h.size → Ext h h' → OAr Z h' a (newarray.typeOf aty) z.toNatClampNeg (fun _ => defaultValue (newarray.typeOf aty)) → OG p e below s Q kc ks T' (mkF m pc' Ls (.ref a :: rest))) : OG p e below s Q kc ks T (mkF m pc Ls (.int z :: rest)) := by
  subst hp
  obtain ⟨T1, h1, cA, X1, e1, E1, A1, st1⟩ := newP X hx hZ w eT (g := mkF m pc Ls (.int z :: rest)) rfl hd rfl hn hcap hb hc hl
  exact OG.step st1 (k T1 h1 _ X1 e1 rfl E1 (OAr.new A1))
theorem o_inb {cl : Cell} {j : Int32} (r : cl.slots.size = n) (hj : ¬ j < 0) (hlt : j.toNatClampNeg < n) : ¬ (j < 0 ∨ cl.slots.size ≤ j.toNatClampNeg) := by
  rintro (q | q)
  · exact hj q
  · omega
theorem o_iaload (X : Stand p l e R s m args below meth c T locs cells slots) (hx : p.tables.exec = Jvm.exec) (hZ : Z.Warmed39 s.vm) {pc pc' : Nat} {Ls : Array Slot} {rest : List Value} {j : Int32} (eT : T.heap = h) (F : OAr Z h a .int n f) (hd : decode c.code pc = .ok (.iaload, 1)) (hj : ¬ j < 0) (hlt : j.toNatClampNeg < n) (x : Int32) (hv : f j.toNatClampNeg = .int x) (hp : pc + 1 = pc') (k : OG p e below s Q kc ks T (mkF m pc' Ls (.int x :: rest))) : OG p e below s Q kc ks T (mkF m pc Ls (.int j :: .ref a :: rest)) := by
  subst hp
  obtain ⟨cl, A, r, H⟩ := F
  exact OG.step (fun t q => X.iaload hx (j := j) (v := .int x) (by rw [eT]; exact A.1) (State.isArrayOf_alike hZ.alike A.2.1) A.2.2 (o_inb r hj hlt) (by rw [H _ hlt, hv]) (g := mkF m pc Ls (.int j :: .ref a :: rest)) rfl rfl hd t q) k
theorem o_laload (X : Stand p l e R s m args below meth c T locs cells slots) (hx : p.tables.exec = Jvm.exec) (hZ : Z.Warmed39 s.vm) {pc pc' : Nat} {Ls : Array Slot} {rest : List Value} {j : Int32} (eT : T.heap = h) (F : OAr Z h a .long n f) (hd : decode c.code pc = .ok (.laload, 1)) (hj : ¬ j < 0) (hlt : j.toNatClampNeg < n) (x : Int64) (hv : f j.toNatClampNeg = .long x) (hp : pc + 1 = pc') (k : OG p e below s Q kc ks T (mkF m pc' Ls (.long x :: rest))) : OG p e below s Q kc ks T (mkF m pc Ls (.int j :: .ref a :: rest)) := by
  subst hp
  obtain ⟨cl, A, r, H⟩ := F
  exact OG.step (fun t q => X.laload hx (j := j) (v := .long x) (by rw [eT]; exact A.1) (State.isArrayOf_alike hZ.alike A.2.1) A.2.2 (o_inb r hj hlt) (by rw [H _ hlt, hv]) (g := mkF m pc Ls (.int j :: .ref a :: rest)) rfl rfl hd t q) k
theorem o_caload (X : Stand p l e R s m args below meth c T locs cells slots) (hx : p.tables.exec = Jvm.exec) (hZ : Z.Warmed39 s.vm) {pc pc' : Nat} {Ls : Array Slot} {rest : List Value} {j : Int32} (eT : T.heap = h) (F : OAr Z h a .char n f) (hd : decode c.code pc = .ok (.caload, 1)) (hj : ¬ j < 0) (hlt : j.toNatClampNeg < n) (x : Int32) (hv : f j.toNatClampNeg = .int x) (hp : pc + 1 = pc') (k : OG p e below s Q kc ks T (mkF m pc' Ls (.int x :: rest))) : OG p e below s Q kc ks T (mkF m pc Ls (.int j :: .ref a :: rest)) := by
  subst hp
  obtain ⟨cl, A, r, H⟩ := F
  exact OG.step (fun t q => X.caload hx (j := j) (v := .int x) (by rw [eT]; exact A.1) (State.isArrayOf_alike hZ.alike A.2.1) A.2.2 (o_inb r hj hlt) (by rw [H _ hlt, hv]) (g := mkF m pc Ls (.int j :: .ref a :: rest)) rfl rfl hd t q) k
theorem o_baload (X : Stand p l e R s m args below meth c T locs cells slots) (hx : p.tables.exec = Jvm.exec) (hZ : Z.Warmed39 s.vm) {pc pc' : Nat} {Ls : Array Slot} {rest : List Value} {j : Int32} (eT : T.heap = h) (F : OAr Z h a .byte n f) (hd : decode c.code pc = .ok (.baload, 1)) (hj : ¬ j < 0) (hlt : j.toNatClampNeg < n) (x : Int32) (hv : f j.toNatClampNeg = .int x) (hp : pc + 1 = pc') (k : OG p e below s Q kc ks T (mkF m pc' Ls (.int x :: rest))) : OG p e below s Q kc ks T (mkF m pc Ls (.int j :: .ref a :: rest)) := by
  subst hp
  obtain ⟨cl, A, r, H⟩ := F
  exact OG.step (fun t q => X.baloadBytes hx (j := j) (v := .int x) (by rw [eT]; exact A.1) (State.isArrayOf_alike hZ.alike A.2.1) A.2.2 (o_inb r hj hlt) (by rw [H _ hlt, hv]) (g := mkF m pc Ls (.int j :: .ref a :: rest)) rfl rfl hd t q) k
theorem o_iastore (X : Stand p l e R s m args below meth c T locs cells slots) (hx : p.tables.exec = Jvm.exec) (hZ : Z.Warmed39 s.vm) {pc pc' : Nat} {Ls : Array Slot} {rest : List Value} {j : Int32} {x : Int32} (eT : T.heap = h) (F : OAr Z h a .int n f) (hd : decode c.code pc = .ok (.iastore, 1)) (hj : ¬ j < 0) (hlt : j.toNatClampNeg < n) (hp : pc + 1 = pc')
    (k : ∀ T' h', Stand p l e R s m args below meth c T' (locs ++ [⟨a, j.toNatClampNeg⟩]) cells slots → T'.heap = h' → Wr h h' a j.toNatClampNeg (.int x) → OG p e below s Q kc ks T' (mkF m pc' Ls rest)) : OG p e below s Q kc ks T (mkF m pc Ls (.int x :: .int j :: .ref a :: rest)) := by
  subst hp
  obtain ⟨cl, A, r, H⟩ := F
  obtain ⟨T1, h1, X1, e1, W1, st1⟩ := stI X hx hZ eT A (o_inb r hj hlt) (g := mkF m pc Ls (.int x :: .int j :: .ref a :: rest)) rfl rfl hd
  exact OG.step st1 (k T1 h1 X1 e1 W1)
theorem o_lastore (X : Stand p l e R s m args below meth c T locs cells slots) (hx : p.tables.exec = Jvm.exec) (hZ : Z.Warmed39 s.vm) {pc pc' : Nat} {Ls : Array Slot} {rest : List Value} {j : Int32} {x : Int64} (eT : T.heap = h) (F : OAr Z h a .long n f) (hd : decode c.code pc = .ok (.lastore, 1)) (hj : ¬ j < 0) (hlt : j.toNatClampNeg < n) (hp : pc + 1 = pc')
    (k : ∀ T' h', Stand p l e R s m args below meth c T' (locs ++ [⟨a, j.toNatClampNeg⟩]) cells slots → T'.heap = h' → Wr h h' a j.toNatClampNeg (.long x) → OG p e below s Q kc ks T' (mkF m pc' Ls rest)) : OG p e below s Q kc ks T (mkF m pc Ls (.long x :: .int j :: .ref a :: rest)) := by
  subst hp
  obtain ⟨cl, A, r, H⟩ := F
  obtain ⟨T1, h1, X1, e1, W1, st1⟩ := stJ X hx hZ eT A (o_inb r hj hlt) (g := mkF m pc Ls (.long x :: .int j :: .ref a :: rest)) rfl rfl hd
  exact OG.step st1 (k T1 h1 X1 e1 W1)
theorem o_castore (X : Stand p l e R s m args below meth c T locs cells slots) (hx : p.tables.exec = Jvm.exec) (hZ : Z.Warmed39 s.vm) {pc pc' : Nat} {Ls : Array Slot} {rest : List Value} {j : Int32} {x : Int32} (eT : T.heap = h) (F : OAr Z h a .char n f) (hd : decode c.code pc = .ok (.castore, 1)) (hj : ¬ j < 0) (hlt : j.toNatClampNeg < n) (hp : pc + 1 = pc')
    (k : ∀ T' h', Stand p l e R s m args below meth c T' (locs ++ [⟨a, j.toNatClampNeg⟩]) cells slots → T'.heap = h' → Wr h h' a j.toNatClampNeg (.int (nar .char x)) → OG p e below s Q kc ks T' (mkF m pc' Ls rest)) : OG p e below s Q kc ks T (mkF m pc Ls (.int x :: .int j :: .ref a :: rest)) := by
  subst hp
  obtain ⟨cl, A, r, H⟩ := F
  obtain ⟨T1, h1, X1, e1, W1, st1⟩ := stC X hx hZ eT A (o_inb r hj hlt) (g := mkF m pc Ls (.int x :: .int j :: .ref a :: rest)) rfl rfl hd
  exact OG.step st1 (k T1 h1 X1 e1 W1)
theorem o_bastore (X : Stand p l e R s m args below meth c T locs cells slots) (hx : p.tables.exec = Jvm.exec) (hZ : Z.Warmed39 s.vm) {pc pc' : Nat} {Ls : Array Slot} {rest : List Value} {j : Int32} {x : Int32} (eT : T.heap = h) (F : OAr Z h a .byte n f) (hd : decode c.code pc = .ok (.bastore, 1)) (hj : ¬ j < 0) (hlt : j.toNatClampNeg < n) (hp : pc + 1 = pc')
    (k : ∀ T' h', Stand p l e R s m args below meth c T' (locs ++ [⟨a, j.toNatClampNeg⟩]) cells slots → T'.heap = h' → Wr h h' a j.toNatClampNeg (.int (nar .byte x)) → OG p e below s Q kc ks T' (mkF m pc' Ls rest)) : OG p e below s Q kc ks T (mkF m pc Ls (.int x :: .int j :: .ref a :: rest)) := by
  subst hp
  obtain ⟨cl, A, r, H⟩ := F
  obtain ⟨T1, h1, X1, e1, W1, st1⟩ := stB X hx hZ eT A (o_inb r hj hlt) (g := mkF m pc Ls (.int x :: .int j :: .ref a :: rest)) rfl rfl hd
  exact OG.step st1 (k T1 h1 X1 e1 W1)
theorem o_private (X : Stand p l e R s m args below meth c T locs cells slots) (hx : p.tables.exec = Jvm.exec) (hZ : Z.Warmed39 s.vm) {own : String} {index kk : Nat} {y : MethodName} {bytes : ByteArray} {maxL : Nat} {ret : Option FieldType} {rm : Room} {Qc : Option Value → Heap → List Loc → Prop} {argsL rest st : List Value} {pc pc' : Nat} {Ls : Array Slot} (W : Nat)
    (hown : s.vm.findClass own = some m.cls) (eT : T.heap = h) (hlink : (Cond.methodLink own index y).before a0 Z = true) (hinst : (Cond.instanceMethod y).before a0 Z = true) (hpriv : (Cond.privateMethod y).before a0 Z = true) (wi : (Cond.instantiable y.cls kk).before a0 Z = true) (hinit : (Cond.initialized y.cls).before a0 Z = true) (hcode : (Cond.code y bytes maxL ret).before a0 Z = true) (hy : y.cls ≠ "java/lang/invoke/MethodHandle" ∧ y.cls ≠ "java/lang/invoke/VarHandle")
    (E : Exa Z h a y.cls)
    (hM : MetFree l y (head1 [Cond.code y bytes maxL ret] rm) (fun b U => b = (.ref a :: argsL).toArray ∧ Z.Warmed39 U.vm ∧ U.heap = h) (fun _ _ _ _ _ => True) (fun _ U o U' => ∃ v L, o = .returned v ∧ Qc v U'.heap L ∧ FrameEnd U o U' L rm.cells rm.slots)) (hf : rm.frames + 1 ≤ R.frames) (hl : W + (maxL + 11) + rm.locals ≤ R.locals)
    (hsize : Ls.size = c.maxLocals) (hlen : ∀ sig, parseMethodDescriptor y.desc = some sig → argsL.length = sig.parameters.length) (hs : st = argsL.reverse ++ .ref a :: rest) (hW : (rest.map fun v => v.category).sum ≤ W) (hd : decode c.code pc = .ok (.invokevirtual index, 3)) (hp : pc + 3 = pc') (hc : cells + rm.cells ≤ R.cells) (hsl : slots + rm.slots ≤ R.slots)
    (k : ∀ v T' L, Stand p l e R s m args below meth c T' (locs ++ L) (cells + rm.cells) (slots + rm.slots) → Qc v T'.heap L → OG p e below s Q kc ks T' (mkF m pc' Ls (v.toList ++ rest))) : OG p e below s Q kc ks T (mkF m pc Ls st) := by
  subst hp hs
  obtain ⟨cq, q1, q2⟩ := E.cell
  have hpa := Cond.privateMethod_at (mvP hZ hpriv (args := args))
  obtain ⟨cI, kI, i1, i2, -, i4, -⟩ := Cond.instantiable_spec (mvT hZ wi : (Cond.instantiable y.cls kk).before args s = true)
  have hni : kI.isInterface = false := (Bool.or_eq_false_iff.mp i4).1
  have hsel := selects_self_of_private (args := args) i1 i2 hni hpa (mvT hZ hinst) hy
  obtain ⟨v, vm₁, ⟨T1, L1, c1, n1⟩, -, X1, ⟨Lc, hQ, l1, y1, z1⟩, st⟩ := X.privateBack hx (y := y) hown (mvT hZ hlink) (mvT hZ hinst) hsel hpa (mvT hZ hcode) hy (backOf (W := W) hM hZ hcode hinit hf hl) (g := mkF m pc Ls (argsL.reverse ++ .ref a :: rest)) rfl hsize (Steps.refl _) (a := a) (by rw [eT]; exact q1) q2 (argsL := argsL) (rest := rest) hlen rfl (by show 2 * 0 + _ ≤ _; omega) hd (fun _ _ => ⟨rfl, eT, hc, hsl⟩)
  dsimp only [Pt.U, Pt.locs, Pt.cells, Pt.slots] at X1 l1 y1 z1 st hQ
  subst l1 y1 z1
  exact OG.step (fun t q => st.trans q) (k v T1 Lc X1 hQ)
end OwnA
section OwnB
def ci (c : Nat → Int32) : Nat → Value := fun i => .int (c i)
def cj (c : Nat → Int64) : Nat → Value := fun i => .long (c i)
def li (vs : List Int32) (i : Nat) : Int32 := vs.getD i 0
def upd (c : Nat → Int32) (j : Nat) (x : Int32) : Nat → Int32 := fun i => if i = j then x else c i
def updJ (c : Nat → Int64) (j : Nat) (x : Int64) : Nat → Int64 := fun i => if i = j then x else c i
variable {Z : State} {h h' : Heap} {a : Addr} {ty : FieldType} {n : Nat}
theorem OAr.setI {vs : List Int32} {j : Nat} {x : Int32} (W : Wr h h' a j (.int x)) (F : OAr Z h a ty n (ci (li vs))) (hj : j < vs.length) : OAr Z h' a ty n (ci (li (vs.set j x))) :=
  (OAr.same W F).cg fun i hi => by
    unfold ci li
    by_cases q : i = j
    · subst q; simp [hj]
    · simp only [List.getD_eq_getElem?_getD, List.getElem?_set, if_neg q, if_neg (fun z : j = i => q z.symm)]
theorem OAr.updI {c : Nat → Int32} {j : Nat} {x : Int32} (W : Wr h h' a j (.int x)) (F : OAr Z h a ty n (ci c)) : OAr Z h' a ty n (ci (upd c j x)) :=
  (OAr.same W F).cg fun i hi => by unfold ci upd; split <;> rfl
theorem OAr.updJ {c : Nat → Int64} {j : Nat} {x : Int64} (W : Wr h h' a j (.long x)) (F : OAr Z h a ty n (cj c)) : OAr Z h' a ty n (cj (updJ c j x)) :=
  (OAr.same W F).cg fun i hi => by unfold cj Jvm.Pilot.@@N@@.updJ; split <;> rfl
theorem OAr.zeros {k : Nat} (F : OAr Z h a ty n (fun _ => .int 0)) : OAr Z h a ty n (ci (li (List.replicate k 0))) :=
  F.cg fun i hi => by unfold ci li; by_cases q : i < k <;> simp [q]
theorem own_back {z : Int32} (q : ¬ z < 0) : z.toNatClampNeg.toInt32 = z := (back32 q).1
end OwnB
section OwnJ
variable {p : Program} {l : Launch} {e : Env} {R : Room} {s sv : State} {m : MethodId} {args : Array Value} {below : List Frame} {meth : Method} {c : Code} {T : State} {locs : List Loc} {cells slots : Nat} {Q : Option Value → Heap → List Loc → Prop} {kc ks : Nat} {Z : State} {a0 : Array Value} {h : Heap}
theorem o_acmpYes (X : Stand p l e R s m args below meth c T locs cells slots) (hx : p.tables.exec = Jvm.exec) {pc pc' : Nat} {Ls : Array Slot} {rest : List Value} {o : Int} {cd : ClassFile.ACond} {x y : Addr} (hd : decode c.code pc = .ok (.if_acmp cd o, 3)) (hc : if_acmp.holds cd (some x) (some y) = true) (ho : 0 ≤ (pc : Int) + o) (hp : ((pc : Int) + o).toNat = pc') (h : OG p e below s Q kc ks T (mkF m pc' Ls rest)) : OG p e below s Q kc ks T (mkF m pc Ls (.ref y :: .ref x :: rest)) :=
  OG.step (fun t q => XS.acmpYes X.here hx rfl rfl hd rfl hc ho hp q) h
theorem o_acmpNo (X : Stand p l e R s m args below meth c T locs cells slots) (hx : p.tables.exec = Jvm.exec) {pc pc' : Nat} {Ls : Array Slot} {rest : List Value} {o : Int} {cd : ClassFile.ACond} {x y : Addr} (hd : decode c.code pc = .ok (.if_acmp cd o, 3)) (hc : if_acmp.holds cd (some x) (some y) = false) (hp : pc + 3 = pc') (h : OG p e below s Q kc ks T (mkF m pc' Ls rest)) : OG p e below s Q kc ks T (mkF m pc Ls (.ref y :: .ref x :: rest)) := by
  subst hp; exact OG.step (fun t q => XS.acmpNo X.here hx rfl hd rfl hc q) h
theorem o_instY (X : Stand p l e R s m args below meth c T locs cells slots) (hx : p.tables.exec = Jvm.exec) {pc pc' : Nat} {Ls : Array Slot} {rest : List Value} (hZ : Z.Warmed39 s.vm) {own K : String} {index : Nat} {a : Addr} (hown : s.vm.findClass own = some m.cls) (eT : T.heap = h) (w : (Cond.classLink own index K).before a0 Z = true) (F : Ins Z h a K true) (hd : decode c.code pc = .ok (.instanceof index, 3)) (hp : pc + 3 = pc')
    (k : ∀ T', Stand p l e R s m args below meth c T' locs cells slots → T'.heap = h → OG p e below s Q kc ks T' (mkF m pc' Ls (.int 1 :: rest))) : OG p e below s Q kc ks T (mkF m pc Ls (.ref a :: rest)) := by
  subst hp
  obtain ⟨T1, X1, e1, st1⟩ := instY X hx hZ hown w eT F (g := mkF m pc Ls (.ref a :: rest)) rfl rfl hd
  exact OG.step st1 (k T1 X1 e1)
theorem o_castY (X : Stand p l e R s m args below meth c T locs cells slots) (hx : p.tables.exec = Jvm.exec) {pc pc' : Nat} {Ls : Array Slot} {rest : List Value} (hZ : Z.Warmed39 s.vm) {own K : String} {index : Nat} {a : Addr} (hown : s.vm.findClass own = some m.cls) (eT : T.heap = h) (w : (Cond.classLink own index K).before a0 Z = true) (F : Ins Z h a K true) (hd : decode c.code pc = .ok (.checkcast index, 3)) (hp : pc + 3 = pc')
    (k : ∀ T', Stand p l e R s m args below meth c T' locs cells slots → T'.heap = h → OG p e below s Q kc ks T' (mkF m pc' Ls (.ref a :: rest))) : OG p e below s Q kc ks T (mkF m pc Ls (.ref a :: rest)) := by
  subst hp
  obtain ⟨T1, X1, e1, st1⟩ := castY X hx hZ hown w eT F (g := mkF m pc Ls (.ref a :: rest)) rfl rfl hd
  exact OG.step st1 (k T1 X1 e1)
theorem o_getS (X : Stand p l e R s m args below meth c T locs cells slots) (hx : p.tables.exec = Jvm.exec) {pc pc' : Nat} {Ls : Array Slot} {rest : List Value} (hZ : Z.Warmed39 s.vm) {own R0 O n d : String} {index : Nat} {v : Value} (hown : s.vm.findClass own = some m.cls) (eT : T.heap = h) (w : (Cond.fieldLink own index R0 n d).before a0 Z = true) (via : Via Z R0 O n d) (F : Sta Z h O n d v) (hd : decode c.code pc = .ok (.getstatic index, 3)) (hp : pc + 3 = pc')
    (k : ∀ T', Stand p l e R s m args below meth c T' locs cells slots → T'.heap = h → OG p e below s Q kc ks T' (mkF m pc' Ls (v :: rest))) : OG p e below s Q kc ks T (mkF m pc Ls rest) := by
  subst hp
  obtain ⟨T1, X1, e1, st1⟩ := getS X hx hZ hown (host := "") w via eT F (g := mkF m pc Ls rest) rfl hd
  exact OG.step st1 (k T1 X1 e1)
theorem own_arv {b : Addr} {k : ClassId} {z : Int32} {vs : List Value} {d : Value} {n : Nat} {L : List Int32} (F : Arv Z h b k .byte z vs d) (hz : z.toNatClampNeg = n) (hv : ∀ i, i < n → vs.getD i d = .int (li L i)) : OAr Z h b .byte n (ci (li L)) := by
  obtain ⟨c, A, -, r, -, H, -⟩ := F
  refine ⟨c, A, by rw [r, hz], fun i hi => ?_⟩
  rw [H i (by rw [r, hz]; exact hi), hv i hi]; rfl
theorem own_fldu {a t t' : Addr} {C n d : String} (F : Fld Z h a C n d (.ref t)) (G : Fld Z h a C n d (.ref t')) : t = t' := by
  obtain ⟨c1, f1, k1, i1, g1, a1, a2, -, -, -, -, a7⟩ := F
  obtain ⟨c2, f2, k2, i2, g2, b1, b2, -, -, -, -, b7⟩ := G
  cases a1.symm.trans b1
  cases a2.symm.trans b2
  have := a7.symm.trans b7
  cases this; rfl
theorem own_aru {t : Addr} {ty : FieldType} {n n' : Nat} {f g : Nat → Value} (A : OAr Z h t ty n f) (B : OAr Z h t ty n' g) : n = n' ∧ ∀ i, i < n → f i = g i := by
  obtain ⟨c1, A1, r1, H1⟩ := A
  obtain ⟨c2, A2, r2, H2⟩ := B
  cases A1.1.symm.trans A2.1
  refine ⟨by omega, fun i hi => ?_⟩
  have := (H1 i hi).symm.trans (H2 i (by omega))
  injection this
theorem own_strne {a a' t t' : Addr} {C n d : String} {ty : FieldType} {k k' : Nat} {f g : Nat → Int32} (V : Fld Z h a C n d (.ref t)) (V' : Fld Z h a' C n d (.ref t')) (A : OAr Z h t ty k (ci f)) (A' : OAr Z h t' ty k' (ci g)) (q : k ≠ k' ∨ (0 < k ∧ f 0 ≠ g 0)) : a ≠ a' := by
  rintro rfl
  cases own_fldu V V'
  obtain ⟨e1, e2⟩ := own_aru A A'
  rcases q with q | ⟨q1, q2⟩
  · exact q e1
  · have := e2 0 q1
    exact q2 (by simpa [ci] using this)
/-- a String at a: its bytes are the list's -/
def SAt (Z : State) (h : Heap) (a : Addr) (L : List Int32) : Prop := ∃ t : Addr, Exa Z h a "java/lang/String" ∧ Fld Z h a "java/lang/String" "coder" "B" (.int 0) ∧ Fld Z h a "java/lang/String" "value" "[B" (.ref t) ∧ OAr Z h t .byte L.length (ci (li L))
end OwnJ
section OwnW
variable {p : Program} {l : Launch} {e : Env} {R : Room} {s sv : State} {m : MethodId} {args : Array Value} {below : List Frame} {meth : Method} {c : Code} {T : State} {locs : List Loc} {cells slots : Nat} {Q : Option Value → Heap → List Loc → Prop} {kc ks : Nat}
/-- as OG; string constants may have been interned meanwhile -/
def OGW (p : Program) (e : Env) (below : List Frame) (s : State) (Q : Option Value → Heap → List Loc → Prop) (kc ks : Nat) (T : State) (g : JFrame) : Prop :=
  ∃ s₂ o, Steps p.tables e below (T.setTop g) s₂ ∧ s₂.status = .running ∧ Ended s₂ below o ∧ ∃ v L, o = .returned v ∧ Q v s₂.heap L ∧ ReturnedEndW s o s₂ L kc ks
theorem OGW.step {T' : State} {g g' : JFrame} (st : ∀ t, Steps p.tables e below (T'.setTop g') t → Steps p.tables e below (T.setTop g) t) (h : OGW p e below s Q kc ks T' g') : OGW p e below s Q kc ks T g := by
  obtain ⟨s₂, o, h1, h2⟩ := h
  exact ⟨s₂, o, st _ h1, h2⟩
theorem OGW.cast {g g' : JFrame} (q : g = g') (h : OGW p e below s Q kc ks T g') : OGW p e below s Q kc ks T g := q ▸ h
theorem OGW.mono {Q' : Option Value → Heap → List Loc → Prop} {g : JFrame} (hq : ∀ v h L, Q v h L → Q' v h L) (h : OGW p e below s Q kc ks T g) : OGW p e below s Q' kc ks T g := by
  obtain ⟨s₂, o, h1, h2, h3, v, L, h4, h5, h6⟩ := h
  exact ⟨s₂, o, h1, h2, h3, v, L, h4, hq _ _ _ h5, h6⟩
theorem w_iadd (X : Stand p l e R sv m args below meth c T locs cells slots) (hx : p.tables.exec = Jvm.exec) {pc pc' : Nat} {Ls : Array Slot} {x y : Int32} {rest : List Value} (hd : decode c.code pc = .ok (.iadd, 1)) (hp : pc + 1 = pc') (h : OGW p e below s Q kc ks T (mkF m pc' Ls (.int (x + y) :: rest))) : OGW p e below s Q kc ks T (mkF m pc Ls (.int y :: .int x :: rest)) := by
  subst hp; exact OGW.step (fun t q => XS.iadd X.here hx rfl hd rfl q) h
theorem w_isub (X : Stand p l e R sv m args below meth c T locs cells slots) (hx : p.tables.exec = Jvm.exec) {pc pc' : Nat} {Ls : Array Slot} {x y : Int32} {rest : List Value} (hd : decode c.code pc = .ok (.isub, 1)) (hp : pc + 1 = pc') (h : OGW p e below s Q kc ks T (mkF m pc' Ls (.int (x - y) :: rest))) : OGW p e below s Q kc ks T (mkF m pc Ls (.int y :: .int x :: rest)) := by
  subst hp; exact OGW.step (fun t q => XS.isub X.here hx rfl hd rfl q) h
theorem w_imul (X : Stand p l e R sv m args below meth c T locs cells slots) (hx : p.tables.exec = Jvm.exec) {pc pc' : Nat} {Ls : Array Slot} {x y : Int32} {rest : List Value} (hd : decode c.code pc = .ok (.imul, 1)) (hp : pc + 1 = pc') (h : OGW p e below s Q kc ks T (mkF m pc' Ls (.int (x * y) :: rest))) : OGW p e below s Q kc ks T (mkF m pc Ls (.int y :: .int x :: rest)) := by
  subst hp; exact OGW.step (fun t q => XS.imul X.here hx rfl hd rfl q) h
theorem w_iand (X : Stand p l e R sv m args below meth c T locs cells slots) (hx : p.tables.exec = Jvm.exec) {pc pc' : Nat} {Ls : Array Slot} {x y : Int32} {rest : List Value} (hd : decode c.code pc = .ok (.iand, 1)) (hp : pc + 1 = pc') (h : OGW p e below s Q kc ks T (mkF m pc' Ls (.int (x &&& y) :: rest))) : OGW p e below s Q kc ks T (mkF m pc Ls (.int y :: .int x :: rest)) := by
  subst hp; exact OGW.step (fun t q => XS.iand X.here hx rfl hd rfl q) h
theorem w_ior (X : Stand p l e R sv m args below meth c T locs cells slots) (hx : p.tables.exec = Jvm.exec) {pc pc' : Nat} {Ls : Array Slot} {x y : Int32} {rest : List Value} (hd : decode c.code pc = .ok (.ior, 1)) (hp : pc + 1 = pc') (h : OGW p e below s Q kc ks T (mkF m pc' Ls (.int (x ||| y) :: rest))) : OGW p e below s Q kc ks T (mkF m pc Ls (.int y :: .int x :: rest)) := by
  subst hp; exact OGW.step (fun t q => XS.ior X.here hx rfl hd rfl q) h
theorem w_ixor (X : Stand p l e R sv m args below meth c T locs cells slots) (hx : p.tables.exec = Jvm.exec) {pc pc' : Nat} {Ls : Array Slot} {x y : Int32} {rest : List Value} (hd : decode c.code pc = .ok (.ixor, 1)) (hp : pc + 1 = pc') (h : OGW p e below s Q kc ks T (mkF m pc' Ls (.int (x ^^^ y) :: rest))) : OGW p e below s Q kc ks T (mkF m pc Ls (.int y :: .int x :: rest)) := by
  subst hp; exact OGW.step (fun t q => XS.ixor X.here hx rfl hd rfl q) h
theorem w_ladd (X : Stand p l e R sv m args below meth c T locs cells slots) (hx : p.tables.exec = Jvm.exec) {pc pc' : Nat} {Ls : Array Slot} {x y : Int64} {rest : List Value} (hd : decode c.code pc = .ok (.ladd, 1)) (hp : pc + 1 = pc') (h : OGW p e below s Q kc ks T (mkF m pc' Ls (.long (x + y) :: rest))) : OGW p e below s Q kc ks T (mkF m pc Ls (.long y :: .long x :: rest)) := by
  subst hp; exact OGW.step (fun t q => XS.ladd X.here hx rfl hd rfl q) h
theorem w_lsub (X : Stand p l e R sv m args below meth c T locs cells slots) (hx : p.tables.exec = Jvm.exec) {pc pc' : Nat} {Ls : Array Slot} {x y : Int64} {rest : List Value} (hd : decode c.code pc = .ok (.lsub, 1)) (hp : pc + 1 = pc') (h : OGW p e below s Q kc ks T (mkF m pc' Ls (.long (x - y) :: rest))) : OGW p e below s Q kc ks T (mkF m pc Ls (.long y :: .long x :: rest)) := by
  subst hp; exact OGW.step (fun t q => XS.lsub X.here hx rfl hd rfl q) h
theorem w_lmul (X : Stand p l e R sv m args below meth c T locs cells slots) (hx : p.tables.exec = Jvm.exec) {pc pc' : Nat} {Ls : Array Slot} {x y : Int64} {rest : List Value} (hd : decode c.code pc = .ok (.lmul, 1)) (hp : pc + 1 = pc') (h : OGW p e below s Q kc ks T (mkF m pc' Ls (.long (x * y) :: rest))) : OGW p e below s Q kc ks T (mkF m pc Ls (.long y :: .long x :: rest)) := by
  subst hp; exact OGW.step (fun t q => XS.lmul X.here hx rfl hd rfl q) h
theorem w_land (X : Stand p l e R sv m args below meth c T locs cells slots) (hx : p.tables.exec = Jvm.exec) {pc pc' : Nat} {Ls : Array Slot} {x y : Int64} {rest : List Value} (hd : decode c.code pc = .ok (.land, 1)) (hp : pc + 1 = pc') (h : OGW p e below s Q kc ks T (mkF m pc' Ls (.long (x &&& y) :: rest))) : OGW p e below s Q kc ks T (mkF m pc Ls (.long y :: .long x :: rest)) := by
  subst hp; exact OGW.step (fun t q => XS.land X.here hx rfl hd rfl q) h
theorem w_lor (X : Stand p l e R sv m args below meth c T locs cells slots) (hx : p.tables.exec = Jvm.exec) {pc pc' : Nat} {Ls : Array Slot} {x y : Int64} {rest : List Value} (hd : decode c.code pc = .ok (.lor, 1)) (hp : pc + 1 = pc') (h : OGW p e below s Q kc ks T (mkF m pc' Ls (.long (x ||| y) :: rest))) : OGW p e below s Q kc ks T (mkF m pc Ls (.long y :: .long x :: rest)) := by
  subst hp; exact OGW.step (fun t q => XS.lor X.here hx rfl hd rfl q) h
theorem w_lxor (X : Stand p l e R sv m args below meth c T locs cells slots) (hx : p.tables.exec = Jvm.exec) {pc pc' : Nat} {Ls : Array Slot} {x y : Int64} {rest : List Value} (hd : decode c.code pc = .ok (.lxor, 1)) (hp : pc + 1 = pc') (h : OGW p e below s Q kc ks T (mkF m pc' Ls (.long (x ^^^ y) :: rest))) : OGW p e below s Q kc ks T (mkF m pc Ls (.long y :: .long x :: rest)) := by
  subst hp; exact OGW.step (fun t q => XS.lxor X.here hx rfl hd rfl q) h
theorem w_ishl (X : Stand p l e R sv m args below meth c T locs cells slots) (hx : p.tables.exec = Jvm.exec) {pc pc' : Nat} {Ls : Array Slot} {x y : Int32} {rest : List Value} (hd : decode c.code pc = .ok (.ishl, 1)) (hp : pc + 1 = pc') (h : OGW p e below s Q kc ks T (mkF m pc' Ls (.int (x <<< (y &&& 31)) :: rest))) : OGW p e below s Q kc ks T (mkF m pc Ls (.int y :: .int x :: rest)) := by
  subst hp; exact OGW.step (fun t q => XS.ishl X.here hx rfl hd rfl q) h
theorem w_ishr (X : Stand p l e R sv m args below meth c T locs cells slots) (hx : p.tables.exec = Jvm.exec) {pc pc' : Nat} {Ls : Array Slot} {x y : Int32} {rest : List Value} (hd : decode c.code pc = .ok (.ishr, 1)) (hp : pc + 1 = pc') (h : OGW p e below s Q kc ks T (mkF m pc' Ls (.int (x >>> (y &&& 31)) :: rest))) : OGW p e below s Q kc ks T (mkF m pc Ls (.int y :: .int x :: rest)) := by
  subst hp; exact OGW.step (fun t q => XS.ishr X.here hx rfl hd rfl q) h
theorem w_iushr (X : Stand p l e R sv m args below meth c T locs cells slots) (hx : p.tables.exec = Jvm.exec) {pc pc' : Nat} {Ls : Array Slot} {x y : Int32} {rest : List Value} (hd : decode c.code pc = .ok (.iushr, 1)) (hp : pc + 1 = pc') (h : OGW p e below s Q kc ks T (mkF m pc' Ls (.int ((x.toUInt32 >>> (y &&& 31).toUInt32).toInt32) :: rest))) : OGW p e below s Q kc ks T (mkF m pc Ls (.int y :: .int x :: rest)) := by
  subst hp; exact OGW.step (fun t q => XS.iushr X.here hx rfl hd rfl q) h
theorem w_lshl (X : Stand p l e R sv m args below meth c T locs cells slots) (hx : p.tables.exec = Jvm.exec) {pc pc' : Nat} {Ls : Array Slot} {x : Int64} {y : Int32} {rest : List Value} (hd : decode c.code pc = .ok (.lshl, 1)) (hp : pc + 1 = pc') (h : OGW p e below s Q kc ks T (mkF m pc' Ls (.long (x <<< (y &&& 0x3f).toInt64) :: rest))) : OGW p e below s Q kc ks T (mkF m pc Ls (.int y :: .long x :: rest)) := by
  subst hp; exact OGW.step (fun t q => XS.lshl X.here hx rfl hd rfl q) h
theorem w_lshr (X : Stand p l e R sv m args below meth c T locs cells slots) (hx : p.tables.exec = Jvm.exec) {pc pc' : Nat} {Ls : Array Slot} {x : Int64} {y : Int32} {rest : List Value} (hd : decode c.code pc = .ok (.lshr, 1)) (hp : pc + 1 = pc') (h : OGW p e below s Q kc ks T (mkF m pc' Ls (.long (x >>> (y &&& 0x3f).toInt64) :: rest))) : OGW p e below s Q kc ks T (mkF m pc Ls (.int y :: .long x :: rest)) := by
  subst hp; exact OGW.step (fun t q => XS.lshr X.here hx rfl hd rfl q) h
theorem w_lushr (X : Stand p l e R sv m args below meth c T locs cells slots) (hx : p.tables.exec = Jvm.exec) {pc pc' : Nat} {Ls : Array Slot} {x : Int64} {y : Int32} {rest : List Value} (hd : decode c.code pc = .ok (.lushr, 1)) (hp : pc + 1 = pc') (h : OGW p e below s Q kc ks T (mkF m pc' Ls (.long ((x.toUInt64 >>> (y &&& 0x3f).toInt64.toUInt64).toInt64) :: rest))) : OGW p e below s Q kc ks T (mkF m pc Ls (.int y :: .long x :: rest)) := by
  subst hp; exact OGW.step (fun t q => XS.lushr X.here hx rfl hd rfl q) h
theorem w_idiv (X : Stand p l e R sv m args below meth c T locs cells slots) (hx : p.tables.exec = Jvm.exec) {pc pc' : Nat} {Ls : Array Slot} {x y : Int32} {rest : List Value} (hd : decode c.code pc = .ok (.idiv, 1)) (hy : y ≠ 0) (hp : pc + 1 = pc') (h : OGW p e below s Q kc ks T (mkF m pc' Ls (.int (x / y) :: rest))) : OGW p e below s Q kc ks T (mkF m pc Ls (.int y :: .int x :: rest)) := by
  subst hp; exact OGW.step (fun t q => XS.idiv X.here hx rfl hd rfl hy q) h
theorem w_ldiv (X : Stand p l e R sv m args below meth c T locs cells slots) (hx : p.tables.exec = Jvm.exec) {pc pc' : Nat} {Ls : Array Slot} {x y : Int64} {rest : List Value} (hd : decode c.code pc = .ok (.ldiv, 1)) (hy : y ≠ 0) (hp : pc + 1 = pc') (h : OGW p e below s Q kc ks T (mkF m pc' Ls (.long (x / y) :: rest))) : OGW p e below s Q kc ks T (mkF m pc Ls (.long y :: .long x :: rest)) := by
  subst hp; exact OGW.step (fun t q => XS.ldiv X.here hx rfl hd rfl hy q) h
theorem w_irem (X : Stand p l e R sv m args below meth c T locs cells slots) (hx : p.tables.exec = Jvm.exec) {pc pc' : Nat} {Ls : Array Slot} {x y : Int32} {rest : List Value} (hd : decode c.code pc = .ok (.irem, 1)) (hy : y ≠ 0) (hp : pc + 1 = pc') (h : OGW p e below s Q kc ks T (mkF m pc' Ls (.int (x % y) :: rest))) : OGW p e below s Q kc ks T (mkF m pc Ls (.int y :: .int x :: rest)) := by
  subst hp; exact OGW.step (fun t q => iremM X hx rfl hd rfl hy q) h
theorem w_lrem (X : Stand p l e R sv m args below meth c T locs cells slots) (hx : p.tables.exec = Jvm.exec) {pc pc' : Nat} {Ls : Array Slot} {x y : Int64} {rest : List Value} (hd : decode c.code pc = .ok (.lrem, 1)) (hy : y ≠ 0) (hp : pc + 1 = pc') (h : OGW p e below s Q kc ks T (mkF m pc' Ls (.long (x % y) :: rest))) : OGW p e below s Q kc ks T (mkF m pc Ls (.long y :: .long x :: rest)) := by
  subst hp; rw [← lrem_mod] at h; exact OGW.step (fun t q => XS.lrem X.here hx rfl hd rfl hy q) h
theorem w_ineg (X : Stand p l e R sv m args below meth c T locs cells slots) (hx : p.tables.exec = Jvm.exec) {pc pc' : Nat} {Ls : Array Slot} {x : Int32} {rest : List Value} (hd : decode c.code pc = .ok (.ineg, 1)) (hp : pc + 1 = pc') (h : OGW p e below s Q kc ks T (mkF m pc' Ls (.int ((-x)) :: rest))) : OGW p e below s Q kc ks T (mkF m pc Ls (.int x :: rest)) := by
  subst hp; exact OGW.step (fun t q => XS.ineg X.here hx rfl hd rfl q) h
theorem w_lneg (X : Stand p l e R sv m args below meth c T locs cells slots) (hx : p.tables.exec = Jvm.exec) {pc pc' : Nat} {Ls : Array Slot} {x : Int64} {rest : List Value} (hd : decode c.code pc = .ok (.lneg, 1)) (hp : pc + 1 = pc') (h : OGW p e below s Q kc ks T (mkF m pc' Ls (.long ((-x)) :: rest))) : OGW p e below s Q kc ks T (mkF m pc Ls (.long x :: rest)) := by
  subst hp; exact OGW.step (fun t q => XS.lneg X.here hx rfl hd rfl q) h
theorem w_i2l (X : Stand p l e R sv m args below meth c T locs cells slots) (hx : p.tables.exec = Jvm.exec) {pc pc' : Nat} {Ls : Array Slot} {x : Int32} {rest : List Value} (hd : decode c.code pc = .ok (.i2l, 1)) (hp : pc + 1 = pc') (h : OGW p e below s Q kc ks T (mkF m pc' Ls (.long (x.toInt64) :: rest))) : OGW p e below s Q kc ks T (mkF m pc Ls (.int x :: rest)) := by
  subst hp; exact OGW.step (fun t q => XS.i2l X.here hx rfl hd rfl q) h
theorem w_l2i (X : Stand p l e R sv m args below meth c T locs cells slots) (hx : p.tables.exec = Jvm.exec) {pc pc' : Nat} {Ls : Array Slot} {x : Int64} {rest : List Value} (hd : decode c.code pc = .ok (.l2i, 1)) (hp : pc + 1 = pc') (h : OGW p e below s Q kc ks T (mkF m pc' Ls (.int (x.toInt32) :: rest))) : OGW p e below s Q kc ks T (mkF m pc Ls (.long x :: rest)) := by
  subst hp; exact OGW.step (fun t q => XS.l2i X.here hx rfl hd rfl q) h
theorem w_i2b (X : Stand p l e R sv m args below meth c T locs cells slots) (hx : p.tables.exec = Jvm.exec) {pc pc' : Nat} {Ls : Array Slot} {x : Int32} {rest : List Value} (hd : decode c.code pc = .ok (.i2b, 1)) (hp : pc + 1 = pc') (h : OGW p e below s Q kc ks T (mkF m pc' Ls (.int (x.toInt8.toInt32) :: rest))) : OGW p e below s Q kc ks T (mkF m pc Ls (.int x :: rest)) := by
  subst hp; exact OGW.step (fun t q => XS.i2b X.here hx rfl hd rfl q) h
theorem w_i2c (X : Stand p l e R sv m args below meth c T locs cells slots) (hx : p.tables.exec = Jvm.exec) {pc pc' : Nat} {Ls : Array Slot} {x : Int32} {rest : List Value} (hd : decode c.code pc = .ok (.i2c, 1)) (hp : pc + 1 = pc') (h : OGW p e below s Q kc ks T (mkF m pc' Ls (.int (x.toUInt32.toUInt16.toUInt32.toInt32) :: rest))) : OGW p e below s Q kc ks T (mkF m pc Ls (.int x :: rest)) := by
  subst hp; exact OGW.step (fun t q => XS.i2c X.here hx rfl hd rfl q) h
theorem w_i2s (X : Stand p l e R sv m args below meth c T locs cells slots) (hx : p.tables.exec = Jvm.exec) {pc pc' : Nat} {Ls : Array Slot} {x : Int32} {rest : List Value} (hd : decode c.code pc = .ok (.i2s, 1)) (hp : pc + 1 = pc') (h : OGW p e below s Q kc ks T (mkF m pc' Ls (.int (x.toInt16.toInt32) :: rest))) : OGW p e below s Q kc ks T (mkF m pc Ls (.int x :: rest)) := by
  subst hp; exact OGW.step (fun t q => XS.i2s X.here hx rfl hd rfl q) h
theorem w_lcmp (X : Stand p l e R sv m args below meth c T locs cells slots) (hx : p.tables.exec = Jvm.exec) {pc pc' : Nat} {Ls : Array Slot} {x y : Int64} {rest : List Value} (hd : decode c.code pc = .ok (.lcmp, 1)) (hp : pc + 1 = pc') (h : OGW p e below s Q kc ks T (mkF m pc' Ls (.int (lcmpW x y) :: rest))) : OGW p e below s Q kc ks T (mkF m pc Ls (.long y :: .long x :: rest)) := by
  subst hp; exact OGW.step (fun t q => XS.lcmp X.here hx rfl hd rfl q) h
theorem w_iconst (X : Stand p l e R sv m args below meth c T locs cells slots) (hx : p.tables.exec = Jvm.exec) {pc pc' : Nat} {Ls : Array Slot} {i : Int} {rest : List Value} (hd : decode c.code pc = .ok (.iconst i, 1)) (w : Int32) (hv : Int32.ofInt i = w) (hp : pc + 1 = pc') (h : OGW p e below s Q kc ks T (mkF m pc' Ls (.int w :: rest))) : OGW p e below s Q kc ks T (mkF m pc Ls (rest)) := by
  subst hp hv; exact OGW.step (fun t q => XS.iconst X.here hx rfl hd q) h
theorem w_bipush (X : Stand p l e R sv m args below meth c T locs cells slots) (hx : p.tables.exec = Jvm.exec) {pc pc' : Nat} {Ls : Array Slot} {i : Int} {rest : List Value} (hd : decode c.code pc = .ok (.bipush i, 2)) (w : Int32) (hv : (Int8.ofInt i).toInt32 = w) (hp : pc + 2 = pc') (h : OGW p e below s Q kc ks T (mkF m pc' Ls (.int w :: rest))) : OGW p e below s Q kc ks T (mkF m pc Ls (rest)) := by
  subst hp hv; exact OGW.step (fun t q => XS.bipush X.here hx rfl hd q) h
theorem w_sipush (X : Stand p l e R sv m args below meth c T locs cells slots) (hx : p.tables.exec = Jvm.exec) {pc pc' : Nat} {Ls : Array Slot} {i : Int} {rest : List Value} (hd : decode c.code pc = .ok (.sipush i, 3)) (w : Int32) (hv : (Int16.ofInt i).toInt32 = w) (hp : pc + 3 = pc') (h : OGW p e below s Q kc ks T (mkF m pc' Ls (.int w :: rest))) : OGW p e below s Q kc ks T (mkF m pc Ls (rest)) := by
  subst hp hv; exact OGW.step (fun t q => XS.sipush X.here hx rfl hd q) h
theorem w_lconst (X : Stand p l e R sv m args below meth c T locs cells slots) (hx : p.tables.exec = Jvm.exec) {pc pc' : Nat} {Ls : Array Slot} {i : Fin 2} {rest : List Value} (hd : decode c.code pc = .ok (.lconst i, 1)) (w : Int64) (hv : Int64.ofNat i = w) (hp : pc + 1 = pc') (h : OGW p e below s Q kc ks T (mkF m pc' Ls (.long w :: rest))) : OGW p e below s Q kc ks T (mkF m pc Ls (rest)) := by
  subst hp hv; exact OGW.step (fun t q => XS.lconst X.here hx rfl hd q) h
theorem w_aconst_null (X : Stand p l e R sv m args below meth c T locs cells slots) (hx : p.tables.exec = Jvm.exec) {pc pc' : Nat} {Ls : Array Slot} {rest : List Value} (hd : decode c.code pc = .ok (.aconst_null, 1)) (hp : pc + 1 = pc') (h : OGW p e below s Q kc ks T (mkF m pc' Ls (.null :: rest))) : OGW p e below s Q kc ks T (mkF m pc Ls (rest)) := by
  subst hp; exact OGW.step (fun t q => XS.aconstNull X.here hx rfl hd q) h
theorem w_iload_n (X : Stand p l e R sv m args below meth c T locs cells slots) (hx : p.tables.exec = Jvm.exec) {pc pc' : Nat} {Ls : Array Slot} {i : Fin 4} {x : Int32} {rest : List Value} (hd : decode c.code pc = .ok (.iload_n i, 1)) (hl : Ls[i.val]? = some (.val (.int x))) (hp : pc + 1 = pc') (h : OGW p e below s Q kc ks T (mkF m pc' Ls (.int x :: rest))) : OGW p e below s Q kc ks T (mkF m pc Ls (rest)) := by
  subst hp; exact OGW.step (fun t q => XS.iloadN X.here hx rfl hd hl q) h
theorem w_iload (X : Stand p l e R sv m args below meth c T locs cells slots) (hx : p.tables.exec = Jvm.exec) {pc pc' : Nat} {Ls : Array Slot} {i : Nat} {x : Int32} {rest : List Value} (hd : decode c.code pc = .ok (.iload i, 2)) (hl : Ls[i]? = some (.val (.int x))) (hp : pc + 2 = pc') (h : OGW p e below s Q kc ks T (mkF m pc' Ls (.int x :: rest))) : OGW p e below s Q kc ks T (mkF m pc Ls (rest)) := by
  subst hp; exact OGW.step (fun t q => XS.iload X.here hx rfl hd hl q) h
theorem w_lload_n (X : Stand p l e R sv m args below meth c T locs cells slots) (hx : p.tables.exec = Jvm.exec) {pc pc' : Nat} {Ls : Array Slot} {i : Fin 4} {x : Int64} {rest : List Value} (hd : decode c.code pc = .ok (.lload_n i, 1)) (hl : Ls[i.val]? = some (.val (.long x))) (hp : pc + 1 = pc') (h : OGW p e below s Q kc ks T (mkF m pc' Ls (.long x :: rest))) : OGW p e below s Q kc ks T (mkF m pc Ls (rest)) := by
  subst hp; exact OGW.step (fun t q => XS.lloadN X.here hx rfl hd hl q) h
theorem w_lload (X : Stand p l e R sv m args below meth c T locs cells slots) (hx : p.tables.exec = Jvm.exec) {pc pc' : Nat} {Ls : Array Slot} {i : Nat} {x : Int64} {rest : List Value} (hd : decode c.code pc = .ok (.lload i, 2)) (hl : Ls[i]? = some (.val (.long x))) (hp : pc + 2 = pc') (h : OGW p e below s Q kc ks T (mkF m pc' Ls (.long x :: rest))) : OGW p e below s Q kc ks T (mkF m pc Ls (rest)) := by
  subst hp; exact OGW.step (fun t q => XS.lload X.here hx rfl hd hl q) h
theorem w_aload_n (X : Stand p l e R sv m args below meth c T locs cells slots) (hx : p.tables.exec = Jvm.exec) {pc pc' : Nat} {Ls : Array Slot} {i : Fin 4} {x : Value} {rest : List Value} (hd : decode c.code pc = .ok (.aload_n i, 1)) (hl : Ls[i.val]? = some (.val x)) (hv : x.isRef = true) (hp : pc + 1 = pc') (h : OGW p e below s Q kc ks T (mkF m pc' Ls (x :: rest))) : OGW p e below s Q kc ks T (mkF m pc Ls (rest)) := by
  subst hp; exact OGW.step (fun t q => XS.aloadN X.here hx rfl hd hl hv q) h
theorem w_aload (X : Stand p l e R sv m args below meth c T locs cells slots) (hx : p.tables.exec = Jvm.exec) {pc pc' : Nat} {Ls : Array Slot} {i : Nat} {x : Value} {rest : List Value} (hd : decode c.code pc = .ok (.aload i, 2)) (hl : Ls[i]? = some (.val x)) (hv : x.isRef = true) (hp : pc + 2 = pc') (h : OGW p e below s Q kc ks T (mkF m pc' Ls (x :: rest))) : OGW p e below s Q kc ks T (mkF m pc Ls (rest)) := by
  subst hp; exact OGW.step (fun t q => XS.aload X.here hx rfl hd hl hv q) h
theorem w_istore_n (X : Stand p l e R sv m args below meth c T locs cells slots) (hx : p.tables.exec = Jvm.exec) {pc pc' : Nat} {Ls : Array Slot} {i : Fin 4} {x : Int32} {rest : List Value} (hd : decode c.code pc = .ok (.istore_n i, 1)) (l' : Array Slot) (hl : storeLocals Ls i.val (.int x) = some l') (hp : pc + 1 = pc') (h : OGW p e below s Q kc ks T (mkF m pc' l' (rest))) : OGW p e below s Q kc ks T (mkF m pc Ls (.int x :: rest)) := by
  subst hp; exact OGW.step (fun t q => XS.istoreN X.here hx rfl hd rfl hl q) h
theorem w_istore (X : Stand p l e R sv m args below meth c T locs cells slots) (hx : p.tables.exec = Jvm.exec) {pc pc' : Nat} {Ls : Array Slot} {i : Nat} {x : Int32} {rest : List Value} (hd : decode c.code pc = .ok (.istore i, 2)) (l' : Array Slot) (hl : storeLocals Ls i (.int x) = some l') (hp : pc + 2 = pc') (h : OGW p e below s Q kc ks T (mkF m pc' l' (rest))) : OGW p e below s Q kc ks T (mkF m pc Ls (.int x :: rest)) := by
  subst hp; exact OGW.step (fun t q => XS.istore X.here hx rfl hd rfl hl q) h
theorem w_lstore_n (X : Stand p l e R sv m args below meth c T locs cells slots) (hx : p.tables.exec = Jvm.exec) {pc pc' : Nat} {Ls : Array Slot} {i : Fin 4} {x : Int64} {rest : List Value} (hd : decode c.code pc = .ok (.lstore_n i, 1)) (l' : Array Slot) (hl : storeLocals Ls i.val (.long x) = some l') (hp : pc + 1 = pc') (h : OGW p e below s Q kc ks T (mkF m pc' l' (rest))) : OGW p e below s Q kc ks T (mkF m pc Ls (.long x :: rest)) := by
  subst hp; exact OGW.step (fun t q => XS.lstoreN X.here hx rfl hd rfl hl q) h
theorem w_lstore (X : Stand p l e R sv m args below meth c T locs cells slots) (hx : p.tables.exec = Jvm.exec) {pc pc' : Nat} {Ls : Array Slot} {i : Nat} {x : Int64} {rest : List Value} (hd : decode c.code pc = .ok (.lstore i, 2)) (l' : Array Slot) (hl : storeLocals Ls i (.long x) = some l') (hp : pc + 2 = pc') (h : OGW p e below s Q kc ks T (mkF m pc' l' (rest))) : OGW p e below s Q kc ks T (mkF m pc Ls (.long x :: rest)) := by
  subst hp; exact OGW.step (fun t q => XS.lstore X.here hx rfl hd rfl hl q) h
theorem w_astore_n (X : Stand p l e R sv m args below meth c T locs cells slots) (hx : p.tables.exec = Jvm.exec) {pc pc' : Nat} {Ls : Array Slot} {i : Fin 4} {x : Value} {rest : List Value} (hd : decode c.code pc = .ok (.astore_n i, 1)) (hv : x.isRef = true) (l' : Array Slot) (hl : storeLocals Ls i.val x = some l') (hp : pc + 1 = pc') (h : OGW p e below s Q kc ks T (mkF m pc' l' (rest))) : OGW p e below s Q kc ks T (mkF m pc Ls (x :: rest)) := by
  subst hp; exact OGW.step (fun t q => XS.astoreN X.here hx rfl hd rfl hv hl q) h
theorem w_astore (X : Stand p l e R sv m args below meth c T locs cells slots) (hx : p.tables.exec = Jvm.exec) {pc pc' : Nat} {Ls : Array Slot} {i : Nat} {x : Value} {rest : List Value} (hd : decode c.code pc = .ok (.astore i, 2)) (hv : x.isRef = true) (l' : Array Slot) (hl : storeLocals Ls i x = some l') (hp : pc + 2 = pc') (h : OGW p e below s Q kc ks T (mkF m pc' l' (rest))) : OGW p e below s Q kc ks T (mkF m pc Ls (x :: rest)) := by
  subst hp; exact OGW.step (fun t q => XS.astore X.here hx rfl hd rfl hv hl q) h
theorem w_iinc (X : Stand p l e R sv m args below meth c T locs cells slots) (hx : p.tables.exec = Jvm.exec) {pc pc' : Nat} {Ls : Array Slot} {i : Nat} {k : Int} {x : Int32} {rest : List Value} (hd : decode c.code pc = .ok (.iinc i k, 3)) (w : Int32) (hw' : Int32.ofInt k = w) (hl : Ls[i]? = some (.val (.int x))) (l' : Array Slot) (hl' : storeLocals Ls i (.int (x + w)) = some l') (hp : pc + 3 = pc') (h : OGW p e below s Q kc ks T (mkF m pc' l' (rest))) : OGW p e below s Q kc ks T (mkF m pc Ls (rest)) := by
  subst hp hw'; exact OGW.step (fun t q => XS.iinc X.here hx rfl hd hl hl' q) h
theorem w_dup (X : Stand p l e R sv m args below meth c T locs cells slots) (hx : p.tables.exec = Jvm.exec) {pc pc' : Nat} {Ls : Array Slot} {x : Value} {rest : List Value} (hd : decode c.code pc = .ok (.dup, 1)) (hc : x.category = 1) (hp : pc + 1 = pc') (h : OGW p e below s Q kc ks T (mkF m pc' Ls (x :: x :: rest))) : OGW p e below s Q kc ks T (mkF m pc Ls (x :: rest)) := by
  subst hp; exact OGW.step (fun t q => XS.dup X.here hx rfl hd rfl hc q) h
theorem w_pop (X : Stand p l e R sv m args below meth c T locs cells slots) (hx : p.tables.exec = Jvm.exec) {pc pc' : Nat} {Ls : Array Slot} {x : Value} {rest : List Value} (hd : decode c.code pc = .ok (.pop, 1)) (hc : x.category = 1) (hp : pc + 1 = pc') (h : OGW p e below s Q kc ks T (mkF m pc' Ls (rest))) : OGW p e below s Q kc ks T (mkF m pc Ls (x :: rest)) := by
  subst hp; exact OGW.step (fun t q => XS.pop X.here hx rfl hd rfl hc q) h
theorem w_dup_x1 (X : Stand p l e R sv m args below meth c T locs cells slots) (hx : p.tables.exec = Jvm.exec) {pc pc' : Nat} {Ls : Array Slot} {x y : Value} {rest : List Value} (hd : decode c.code pc = .ok (.dup_x1, 1)) (hc : x.category = 1) (hc2 : y.category = 1) (hp : pc + 1 = pc') (h : OGW p e below s Q kc ks T (mkF m pc' Ls (x :: y :: x :: rest))) : OGW p e below s Q kc ks T (mkF m pc Ls (x :: y :: rest)) := by
  subst hp; exact OGW.step (fun t q => XS.dupX1 X.here hx rfl hd rfl hc hc2 q) h
theorem w_goto (X : Stand p l e R sv m args below meth c T locs cells slots) (hx : p.tables.exec = Jvm.exec) {pc pc' : Nat} {Ls : Array Slot} {rest : List Value} {o : Int} (hd : decode c.code pc = .ok (.goto o, 3)) (ho : 0 ≤ (pc : Int) + o) (hp : ((pc : Int) + o).toNat = pc') (h : OGW p e below s Q kc ks T (mkF m pc' Ls rest)) : OGW p e below s Q kc ks T (mkF m pc Ls rest) :=
  OGW.step (fun t q => XS.goto X.here hx rfl rfl hd ho hp q) h
theorem w_ifYes (X : Stand p l e R sv m args below meth c T locs cells slots) (hx : p.tables.exec = Jvm.exec) {pc pc' : Nat} {Ls : Array Slot} {rest : List Value} {o : Int} {cd : ClassFile.Cond} {x : Int32} (hd : decode c.code pc = .ok (.ifCond cd o, 3)) (hc : ifCond.holds cd x = true) (ho : 0 ≤ (pc : Int) + o) (hp : ((pc : Int) + o).toNat = pc') (h : OGW p e below s Q kc ks T (mkF m pc' Ls rest)) : OGW p e below s Q kc ks T (mkF m pc Ls (.int x :: rest)) :=
  OGW.step (fun t q => XS.ifYes X.here hx rfl rfl hd rfl hc ho hp q) h
theorem w_ifNo (X : Stand p l e R sv m args below meth c T locs cells slots) (hx : p.tables.exec = Jvm.exec) {pc pc' : Nat} {Ls : Array Slot} {rest : List Value} {o : Int} {cd : ClassFile.Cond} {x : Int32} (hd : decode c.code pc = .ok (.ifCond cd o, 3)) (hc : ifCond.holds cd x = false) (hp : pc + 3 = pc') (h : OGW p e below s Q kc ks T (mkF m pc' Ls rest)) : OGW p e below s Q kc ks T (mkF m pc Ls (.int x :: rest)) := by
  subst hp; exact OGW.step (fun t q => XS.ifNo X.here hx rfl hd rfl hc q) h
theorem w_icmpYes (X : Stand p l e R sv m args below meth c T locs cells slots) (hx : p.tables.exec = Jvm.exec) {pc pc' : Nat} {Ls : Array Slot} {rest : List Value} {o : Int} {cd : ClassFile.Cond} {x y : Int32} (hd : decode c.code pc = .ok (.if_icmp cd o, 3)) (hc : if_icmp.holds cd x y = true) (ho : 0 ≤ (pc : Int) + o) (hp : ((pc : Int) + o).toNat = pc') (h : OGW p e below s Q kc ks T (mkF m pc' Ls rest)) : OGW p e below s Q kc ks T (mkF m pc Ls (.int y :: .int x :: rest)) :=
  OGW.step (fun t q => XS.icmpYes X.here hx rfl rfl hd rfl hc ho hp q) h
theorem w_icmpNo (X : Stand p l e R sv m args below meth c T locs cells slots) (hx : p.tables.exec = Jvm.exec) {pc pc' : Nat} {Ls : Array Slot} {rest : List Value} {o : Int} {cd : ClassFile.Cond} {x y : Int32} (hd : decode c.code pc = .ok (.if_icmp cd o, 3)) (hc : if_icmp.holds cd x y = false) (hp : pc + 3 = pc') (h : OGW p e below s Q kc ks T (mkF m pc' Ls rest)) : OGW p e below s Q kc ks T (mkF m pc Ls (.int y :: .int x :: rest)) := by
  subst hp; exact OGW.step (fun t q => XS.icmpNo X.here hx rfl hd rfl hc q) h
theorem w_ifnonnullYes (X : Stand p l e R sv m args below meth c T locs cells slots) (hx : p.tables.exec = Jvm.exec) {pc pc' : Nat} {Ls : Array Slot} {rest : List Value} {o : Int} {b : Addr} (hd : decode c.code pc = .ok (.ifnonnull o, 3)) (ho : 0 ≤ (pc : Int) + o) (hp : ((pc : Int) + o).toNat = pc') (h : OGW p e below s Q kc ks T (mkF m pc' Ls rest)) : OGW p e below s Q kc ks T (mkF m pc Ls (.ref b :: rest)) :=
  OGW.step (fun t q => XS.ifnonnullYes X.here hx rfl rfl hd rfl ho hp q) h
theorem w_ifnonnullNo (X : Stand p l e R sv m args below meth c T locs cells slots) (hx : p.tables.exec = Jvm.exec) {pc pc' : Nat} {Ls : Array Slot} {rest : List Value} {o : Int} (hd : decode c.code pc = .ok (.ifnonnull o, 3)) (hp : pc + 3 = pc') (h : OGW p e below s Q kc ks T (mkF m pc' Ls rest)) : OGW p e below s Q kc ks T (mkF m pc Ls (.null :: rest)) := by
  subst hp; exact OGW.step (fun t q => XS.ifnonnullNo X.here hx rfl hd rfl q) h
theorem w_ldcInt (X : Stand p l e R sv m args below meth c T locs cells slots) (hx : p.tables.exec = Jvm.exec) {pc pc' : Nat} {Ls : Array Slot} {rest : List Value} {Z : State} {a0 : Array Value} {own : String} {i : Nat} {v : Int32} (hZ : Z.Warmed39 sv.vm) (hown : sv.vm.findClass own = some m.cls) (hd : decode c.code pc = .ok (.ldc i, 2)) (hk : (Cond.constant own i v).before a0 Z = true) (hp : pc + 2 = pc') (h : OGW p e below s Q kc ks T (mkF m pc' Ls (.int v :: rest))) : OGW p e below s Q kc ks T (mkF m pc Ls rest) := by
  subst hp; exact OGW.step (fun t q => X.ldcInt hx hown (mvT hZ hk) (g := mkF m pc Ls rest) rfl hd t q) h
theorem w_ldc2Long (X : Stand p l e R sv m args below meth c T locs cells slots) (hx : p.tables.exec = Jvm.exec) {pc pc' : Nat} {Ls : Array Slot} {rest : List Value} {Z : State} {a0 : Array Value} {own : String} {i : Nat} {v : Int64} (hZ : Z.Warmed39 sv.vm) (hown : sv.vm.findClass own = some m.cls) (hd : decode c.code pc = .ok (.ldc2_w i, 3)) (hk : (Cond.constantLong own i v).before a0 Z = true) (hp : pc + 3 = pc') (h : OGW p e below s Q kc ks T (mkF m pc' Ls (.long v :: rest))) : OGW p e below s Q kc ks T (mkF m pc Ls rest) := by
  subst hp; exact OGW.step (fun t q => X.ldc2Long hx hown (mvT hZ hk) (g := mkF m pc Ls rest) rfl hd t q) h
variable {Z : State} {a0 : Array Value} {h : Heap}
theorem w_callS (X : Stand p l e R sv m args below meth c T locs cells slots) (hx : p.tables.exec = Jvm.exec) (hZ : Z.Warmed39 sv.vm) {own : String} {index : Nat} {y : MethodName} {bytes : ByteArray} {maxL : Nat} {ret : Option FieldType} {rm : Room} {Qc : Option Value → Heap → List Loc → Prop} {argsL rest st : List Value} {pc pc' : Nat} {Ls : Array Slot} (W : Nat)
    (hown : sv.vm.findClass own = some m.cls) (eT : T.heap = h) (hlink : (Cond.methodLink own index y).before a0 Z = true) (hstat : (Cond.static y).before a0 Z = true) (hinit : (Cond.initialized y.cls).before a0 Z = true) (hcode : (Cond.code y bytes maxL ret).before a0 Z = true) (hy : y.cls ≠ "java/lang/invoke/MethodHandle" ∧ y.cls ≠ "java/lang/invoke/VarHandle")
    (hM : MetFree l y (head1 [Cond.code y bytes maxL ret] rm) (fun a U => a = argsL.toArray ∧ Z.Warmed39 U.vm ∧ U.heap = h) (fun _ _ _ _ _ => True) (fun _ U o U' => ∃ v L, o = .returned v ∧ Qc v U'.heap L ∧ FrameEnd U o U' L rm.cells rm.slots)) (hf : rm.frames + 1 ≤ R.frames) (hl : W + (maxL + 11) + rm.locals ≤ R.locals)
    (hsize : Ls.size = c.maxLocals) (hlen : ∀ sig, parseMethodDescriptor y.desc = some sig → argsL.length = sig.parameters.length) (hs : st = argsL.reverse ++ rest) (hW : (rest.map fun v => v.category).sum ≤ W) (hd : decode c.code pc = .ok (.invokestatic index, 3)) (hp : pc + 3 = pc') (hc : cells + rm.cells ≤ R.cells) (hsl : slots + rm.slots ≤ R.slots)
    (k : ∀ v T' L, Stand p l e R sv m args below meth c T' (locs ++ L) (cells + rm.cells) (slots + rm.slots) → Qc v T'.heap L → OGW p e below s Q kc ks T' (mkF m pc' Ls (v.toList ++ rest))) : OGW p e below s Q kc ks T (mkF m pc Ls st) := by
  subst hp hs
  obtain ⟨v, vm₁, ⟨T1, L1, c1, n1⟩, -, X1, ⟨Lc, hQ, l1, y1, z1⟩, st⟩ := Jvm.LawKit.callS X hx (y := y) hown (mvT hZ hlink) (mvT hZ hstat) (mvT hZ hinit) (mvT hZ hcode) hy (backOf (W := W) hM hZ hcode hinit hf hl) (g := mkF m pc Ls (argsL.reverse ++ rest)) rfl hsize (argsL := argsL) (rest := rest) hlen rfl (by show 2 * 0 + _ ≤ _; omega) hd (fun _ _ => ⟨rfl, eT, hc, hsl⟩)
  dsimp only [Pt.U, Pt.locs, Pt.cells, Pt.slots] at X1 l1 y1 z1 st hQ
  subst l1 y1 z1
  exact OGW.step st (k v T1 Lc X1 hQ)
theorem w_special (X : Stand p l e R sv m args below meth c T locs cells slots) (hx : p.tables.exec = Jvm.exec) (hZ : Z.Warmed39 sv.vm) {own : String} {index : Nat} {y : MethodName} {bytes : ByteArray} {maxL : Nat} {rm : Room} {Qc : Option Value → Heap → List Loc → Prop} {a : Addr} {argsL rest st : List Value} {pc pc' : Nat} {Ls : Array Slot} (W : Nat) (hy1 : y.name = "<init>")
    (hown : sv.vm.findClass own = some m.cls) (eT : T.heap = h) (hlink : (Cond.methodLink own index y).before a0 Z = true) (hinst : (Cond.instanceMethod y).before a0 Z = true) (hinit : (Cond.initialized y.cls).before a0 Z = true) (hcode : (Cond.code y bytes maxL none).before a0 Z = true) (hy : y.cls ≠ "java/lang/invoke/MethodHandle" ∧ y.cls ≠ "java/lang/invoke/VarHandle")
    (hM : MetFree l y (head1 [Cond.code y bytes maxL none] rm) (fun b U => b = (.ref a :: argsL).toArray ∧ Z.Warmed39 U.vm ∧ U.heap = h) (fun _ _ _ _ _ => True) (fun _ U o U' => ∃ v L, o = .returned v ∧ Qc v U'.heap L ∧ FrameEnd U o U' L rm.cells rm.slots)) (hf : rm.frames + 1 ≤ R.frames) (hl : W + (maxL + 11) + rm.locals ≤ R.locals)
    (hsize : Ls.size = c.maxLocals) (hlen : ∀ sig, parseMethodDescriptor y.desc = some sig → argsL.length = sig.parameters.length) (hs : st = argsL.reverse ++ .ref a :: rest) (hW : (rest.map fun v => v.category).sum ≤ W) (hd : decode c.code pc = .ok (.invokespecial index, 3)) (hp : pc + 3 = pc') (hc : cells + rm.cells ≤ R.cells) (hsl : slots + rm.slots ≤ R.slots)
    (k : ∀ v T' L, Stand p l e R sv m args below meth c T' (locs ++ L) (cells + rm.cells) (slots + rm.slots) → Qc v T'.heap L → OGW p e below s Q kc ks T' (mkF m pc' Ls (v.toList ++ rest))) : OGW p e below s Q kc ks T (mkF m pc Ls st) := by
  subst hp hs
  obtain ⟨v, vm₁, ⟨T1, L1, c1, n1⟩, -, X1, ⟨Lc, hQ, l1, y1, z1⟩, st⟩ := X.specialBack hx (y := y) hy1 hown (mvT hZ hlink) (mvT hZ hinst) (mvT hZ hcode) hy (backOf (W := W) hM hZ hcode hinit hf hl) (g := mkF m pc Ls (argsL.reverse ++ .ref a :: rest)) rfl hsize (Steps.refl _) (a := a) (argsL := argsL) (rest := rest) hlen rfl (by show 2 * 0 + _ ≤ _; omega) hd (fun _ _ => ⟨rfl, eT, hc, hsl⟩)
  dsimp only [Pt.U, Pt.locs, Pt.cells, Pt.slots] at X1 l1 y1 z1 st hQ
  subst l1 y1 z1
  exact OGW.step (fun t q => st.trans q) (k v T1 Lc X1 hQ)
theorem w_virtual (X : Stand p l e R sv m args below meth c T locs cells slots) (hx : p.tables.exec = Jvm.exec) (hZ : Z.Warmed39 sv.vm) {own C : String} {index : Nat} {y : MethodName} {bytes : ByteArray} {maxL : Nat} {ret : Option FieldType} {rm : Room} {Qc : Option Value → Heap → List Loc → Prop} {a : Addr} {argsL rest st : List Value} {pc pc' : Nat} {Ls : Array Slot} (W : Nat)
    (hown : sv.vm.findClass own = some m.cls) (eT : T.heap = h) (hlink : (Cond.methodLink own index y).before a0 Z = true) (hdecl : (Cond.declares y).before a0 Z = true) (hsel : (Cond.selects C y y).before a0 Z = true) (hinst : (Cond.instanceMethod y).before a0 Z = true) (hinit : (Cond.initialized y.cls).before a0 Z = true) (hcode : (Cond.code y bytes maxL ret).before a0 Z = true) (hy : y.cls ≠ "java/lang/invoke/MethodHandle" ∧ y.cls ≠ "java/lang/invoke/VarHandle")
    (E : Exa Z h a C)
    (hM : MetFree l y (head1 [Cond.code y bytes maxL ret] rm) (fun b U => b = (.ref a :: argsL).toArray ∧ Z.Warmed39 U.vm ∧ U.heap = h) (fun _ _ _ _ _ => True) (fun _ U o U' => ∃ v L, o = .returned v ∧ Qc v U'.heap L ∧ FrameEnd U o U' L rm.cells rm.slots)) (hf : rm.frames + 1 ≤ R.frames) (hl : W + (maxL + 11) + rm.locals ≤ R.locals)
    (hsize : Ls.size = c.maxLocals) (hlen : ∀ sig, parseMethodDescriptor y.desc = some sig → argsL.length = sig.parameters.length) (hs : st = argsL.reverse ++ .ref a :: rest) (hW : (rest.map fun v => v.category).sum ≤ W) (hd : decode c.code pc = .ok (.invokevirtual index, 3)) (hp : pc + 3 = pc') (hc : cells + rm.cells ≤ R.cells) (hsl : slots + rm.slots ≤ R.slots)
    (k : ∀ v T' L, Stand p l e R sv m args below meth c T' (locs ++ L) (cells + rm.cells) (slots + rm.slots) → Qc v T'.heap L → OGW p e below s Q kc ks T' (mkF m pc' Ls (v.toList ++ rest))) : OGW p e below s Q kc ks T (mkF m pc Ls st) := by
  subst hp hs
  obtain ⟨cq, kq, qa, qb, qc⟩ := isOf hZ eT E
  obtain ⟨v, vm₁, ⟨T1, L1, c1, n1⟩, -, X1, ⟨Lc, hQ, l1, y1, z1⟩, st⟩ := X.virtualBack hx (y := y) (z := y) hown (mvT hZ hlink) (mvT hZ hdecl) (notFace_of_selects (args := #[]) (mvT hZ hsel)) (mvT hZ hsel) (mvT hZ hinst) hy (backOf (W := W) hM hZ hcode hinit hf hl) qa qc (g := mkF m pc Ls (argsL.reverse ++ .ref a :: rest)) rfl hsize (Steps.refl _) (argsL := argsL) (rest := rest) hlen rfl (by show 2 * 0 + _ ≤ _; omega) hd (fun _ _ => ⟨rfl, eT, hc, hsl⟩)
  dsimp only [Pt.U, Pt.locs, Pt.cells, Pt.slots] at X1 l1 y1 z1 st hQ
  subst l1 y1 z1
  exact OGW.step (fun t q => st.trans q) (k v T1 Lc X1 hQ)
theorem w_new (X : Stand p l e R sv m args below meth c T locs cells slots) (hx : p.tables.exec = Jvm.exec) (hZ : Z.Warmed39 sv.vm) {own C : String} {index n : Nat} {pc pc' : Nat} {Ls : Array Slot} {rest : List Value} (hown : sv.vm.findClass own = some m.cls) (eT : T.heap = h) (w : (Cond.classLink own index C).before a0 Z = true) (wi : (Cond.instantiable C n).before a0 Z = true) (wz : (Cond.initialized C).before a0 Z = true) (hd : decode c.code pc = .ok (.new index, 3)) (hp : pc + 3 = pc') (hc : cells + 1 ≤ R.cells) (hl : slots + n ≤ R.slots)
    (k : ∀ T' h' a, Stand p l e R sv m args below meth c T' locs (cells + 1) (slots + n) → T'.heap = h' → a = h.size → Ext h h' → Exa Z h' a C → (∀ {O nm d : String} {ty : FieldType}, Laid Z a0 C O nm d → parseFieldDescriptor d = some ty → Fld Z h' a O nm d (defaultValue ty)) → OGW p e below s Q kc ks T' (mkF m pc' Ls (.ref a :: rest))) : OGW p e below s Q kc ks T (mkF m pc Ls rest) := by
  subst hp
  obtain ⟨T2, h2, X2, e2, E2, A2, D2, -, st2⟩ := newO X hx hZ hown w wi wz eT (g := mkF m pc Ls rest) rfl hd hc hl
  exact OGW.step st2 (k T2 h2 _ X2 e2 rfl E2 A2 D2)
theorem w_initO (X : Stand p l e R sv m args below meth c T locs cells slots) (hx : p.tables.exec = Jvm.exec) (hZ : Z.Warmed39 sv.vm) {own : String} {index : Nat} {a : Addr} {pc pc' : Nat} {Ls : Array Slot} {rest : List Value} (W : Nat) (hown : sv.vm.findClass own = some m.cls) (eT : T.heap = h)
    (w1 : (Cond.methodLink own index Lib.objectInit).before a0 Z = true) (w2 : (Cond.instanceMethod Lib.objectInit).before a0 Z = true) (w3 : (Cond.code Lib.objectInit object_method_1_code 1 none).before a0 Z = true) (hsize : Ls.size = c.maxLocals) (hd : decode c.code pc = .ok (.invokespecial index, 3)) (hf : 1 ≤ R.frames) (hW : (rest.map fun v => v.category).sum ≤ W) (hl : W + 12 ≤ R.locals) (hp : pc + 3 = pc')
    (k : ∀ T', Stand p l e R sv m args below meth c T' locs cells slots → T'.heap = h → OGW p e below s Q kc ks T' (mkF m pc' Ls rest)) : OGW p e below s Q kc ks T (mkF m pc Ls (.ref a :: rest)) := by
  subst hp
  obtain ⟨T1, X1, e1, st1⟩ := initO X hx hZ hown w1 w2 w3 eT (g := mkF m pc Ls (.ref a :: rest)) rfl hsize rfl hd hf (W := W) (by show 2 * 0 + _ ≤ _; omega) hl
  exact OGW.step st1 (k T1 X1 e1)
theorem w_getF (X : Stand p l e R sv m args below meth c T locs cells slots) (hx : p.tables.exec = Jvm.exec) (hZ : Z.Warmed39 sv.vm) {own R0 O n d : String} {index : Nat} {a : Addr} {v : Value} {pc pc' : Nat} {Ls : Array Slot} {rest : List Value} (hown : sv.vm.findClass own = some m.cls) (eT : T.heap = h) (w : (Cond.fieldLink own index R0 n d).before a0 Z = true) (via : Via Z R0 O n d) (F : Fld Z h a O n d v) (hd : decode c.code pc = .ok (.getfield index, 3)) (hp : pc + 3 = pc')
    (k : ∀ T', Stand p l e R sv m args below meth c T' locs cells slots → T'.heap = h → OGW p e below s Q kc ks T' (mkF m pc' Ls (v :: rest))) : OGW p e below s Q kc ks T (mkF m pc Ls (.ref a :: rest)) := by
  subst hp
  obtain ⟨T1, X1, e1, st1⟩ := getF X hx hZ hown (host := "") (Or.inl w) via eT F (g := mkF m pc Ls (.ref a :: rest)) rfl rfl hd
  exact OGW.step st1 (k T1 X1 e1)
theorem w_putF (X : Stand p l e R sv m args below meth c T locs cells slots) (hx : p.tables.exec = Jvm.exec) (hZ : Z.Warmed39 sv.vm) {own R0 O n d C : String} {index kk : Nat} {ty : FieldType} {a : Addr} {v old : Value} {pc pc' : Nat} {Ls : Array Slot} {rest : List Value} (hown : sv.vm.findClass own = some m.cls) (eT : T.heap = h) (w : (Cond.fieldLink own index R0 n d).before a0 Z = true) (via : Via Z R0 O n d) (F : Fld Z h a O n d old) (E : Exa Z h a C)
    (L : (Cond.lays C O n d).before a0 Z = true ∨ ((Cond.laysFinal C O n d).before a0 Z = true ∧ own = O ∧ meth.name = "<init>")) (wi : (Cond.instantiable C kk).before a0 Z = true) (hty : parseFieldDescriptor d = some ty) (hn : narrow ty v = v) (hf : fits ty v = true) (hd : decode c.code pc = .ok (.putfield index, 3)) (hp : pc + 3 = pc')
    (k : ∀ T' h', Stand p l e R sv m args below meth c T' (locs ++ [⟨a, RoadKit.slotOf Z O n d⟩]) cells slots → T'.heap = h' → Wr h h' a (RoadKit.slotOf Z O n d) v → OGW p e below s Q kc ks T' (mkF m pc' Ls rest)) : OGW p e below s Q kc ks T (mkF m pc Ls (v :: .ref a :: rest)) := by
  subst hp
  obtain ⟨T1, h1, X1, e1, W1, st1⟩ := putF X hx hZ hown (host := "") (Or.inl w) via eT F E L wi hty hn hf (g := mkF m pc Ls (v :: .ref a :: rest)) rfl rfl hd
  exact OGW.step st1 (k T1 h1 X1 e1 W1)
theorem w_retI {vm : Vm} {k0 : Nat} (X : Stand p l e R (s.setVm vm) m args below meth c T locs cells slots) (hS : s.Since vm k0) (hk : k0 ≤ T.heap.size) (hx : p.tables.exec = Jvm.exec) (hlk : meth.locks = false) {pc : Nat} {Ls : Array Slot} {rest : List Value} {z : Int32} (hret : meth.sig.returnType = some .int) (hd : decode c.code pc = .ok (.ireturn, 1)) (hQ : Q (some (.int z)) T.heap locs) (h1 : cells ≤ kc) (h2 : slots ≤ ks) : OGW p e below s Q kc ks T (mkF m pc Ls (.int z :: rest)) := by
  obtain ⟨fs, hr, hrun, hended, e1, e2, e3, e4⟩ := X.leaveW hS hk (v := some (.int z)) (fun h => by rw [hret] at h; cases h) hlk
  exact ⟨_, _, retI X hx hret hd hr, hrun, hended, _, _, rfl, hQ, e1, e2, e3, e4.mono h1 h2⟩
theorem w_retJ {vm : Vm} {k0 : Nat} (X : Stand p l e R (s.setVm vm) m args below meth c T locs cells slots) (hS : s.Since vm k0) (hk : k0 ≤ T.heap.size) (hx : p.tables.exec = Jvm.exec) (hlk : meth.locks = false) {pc : Nat} {Ls : Array Slot} {rest : List Value} {z : Int64} (hret : meth.sig.returnType = some .long) (hd : decode c.code pc = .ok (.lreturn, 1)) (hQ : Q (some (.long z)) T.heap locs) (h1 : cells ≤ kc) (h2 : slots ≤ ks) : OGW p e below s Q kc ks T (mkF m pc Ls (.long z :: rest)) := by
  obtain ⟨fs, hr, hrun, hended, e1, e2, e3, e4⟩ := X.leaveW hS hk (v := some (.long z)) (fun h => by rw [hret] at h; cases h) hlk
  exact ⟨_, _, retJ X hx hret hd hr, hrun, hended, _, _, rfl, hQ, e1, e2, e3, e4.mono h1 h2⟩
theorem w_retN {vm : Vm} {k0 : Nat} (X : Stand p l e R (s.setVm vm) m args below meth c T locs cells slots) (hS : s.Since vm k0) (hk : k0 ≤ T.heap.size) (hx : p.tables.exec = Jvm.exec) (hlk : meth.locks = false) {pc : Nat} {Ls : Array Slot} {rest : List Value} {z w : Int32} {t : FieldType} (ht : t = .boolean ∨ t = .byte ∨ t = .char ∨ t = .short) (hret : meth.sig.returnType = some t) (hd : decode c.code pc = .ok (.ireturn, 1)) (hz : nar t z = w) (hQ : Q (some (.int w)) T.heap locs) (h1 : cells ≤ kc) (h2 : slots ≤ ks) : OGW p e below s Q kc ks T (mkF m pc Ls (.int z :: rest)) := by
  subst hz
  obtain ⟨fs, hr, hrun, hended, e1, e2, e3, e4⟩ := X.leaveW hS hk (v := some (.int (nar t z))) (fun h => by rw [hret] at h; cases h) hlk
  exact ⟨_, _, retN X hx hret ht hd hr, hrun, hended, _, _, rfl, hQ, e1, e2, e3, e4.mono h1 h2⟩
theorem w_ret {vm : Vm} {k0 : Nat} (X : Stand p l e R (s.setVm vm) m args below meth c T locs cells slots) (hS : s.Since vm k0) (hk : k0 ≤ T.heap.size) (hx : p.tables.exec = Jvm.exec) (hlk : meth.locks = false) {pc : Nat} {Ls : Array Slot} (hret : meth.sig.returnType = none) (hd : decode c.code pc = .ok (.return_, 1)) (hQ : Q none T.heap locs) (h1 : cells ≤ kc) (h2 : slots ≤ ks) : OGW p e below s Q kc ks T (mkF m pc Ls []) := by
  obtain ⟨fs, hr, hrun, hended, e1, e2, e3, e4⟩ := X.leaveW hS hk (v := none) (fun _ => rfl) hlk
  exact ⟨_, _, X.returnOut hx hret hd hr, hrun, hended, _, _, rfl, hQ, e1, e2, e3, e4.mono h1 h2⟩
theorem w_ldcS {vm : Vm} {k0 : Nat} (X : Stand p l e R (s.setVm vm) m args below meth c T locs cells slots) (hx : p.tables.exec = Jvm.exec) (hZ : Z.Warmed39 vm) {own text : String} {index : Nat} {pc pc' : Nat} {Ls : Array Slot} {rest : List Value} (hown : vm.findClass own = some m.cls) (w : (Cond.stringLink own index text).before a0 Z = true) (wS : ∀ a ∈ Bundle.stringAtoms, a.before a0 Z = true)
    (eT : T.heap = h) (hS : s.Since vm k0) (hk : k0 ≤ h.size) (hd : decode c.code pc = .ok (.ldc index, 2)) (n : Nat) (hn : 4 * text.toList.length ≤ n) (hbig : n ≤ 536870912) (hc : cells + 2 ≤ R.cells) (hl : slots + (n + 4) ≤ R.slots) (hp : pc + 2 = pc')
    (k : ∀ (a : Addr) (T' : State) (h' : Heap) (vm' : Vm), Stand p l e R (s.setVm vm') m args below meth c T' locs (cells + 2) (slots + (n + 4)) → T'.heap = h' → Ext h h' → s.Since vm' h'.size → Z.Warmed39 vm' → vm'.findClass own = some m.cls → OGW p e below s Q kc ks T' (mkF m pc' Ls (.ref a :: rest))) : OGW p e below s Q kc ks T (mkF m pc Ls rest) := by
  subst hp
  obtain ⟨a, T', h', k1, X', e', E', S', q', Z', o', st⟩ := ldcS X hx hZ hown w wS eT hS hk (g := mkF m pc Ls rest) rfl hd hn hbig hc hl
  refine OGW.step st (k a T' h' T'.vm X' e' E' ?_ Z' o')
  exact State.Since.trans S' ((State.WarmedH.refl (s.setVm T'.vm)).since _) q'
theorem w_specialW {vm : Vm} {k0 : Nat} (X : Stand p l e R (s.setVm vm) m args below meth c T locs cells slots) (hx : p.tables.exec = Jvm.exec) (hZ : Z.Warmed39 vm) {own : String} {index : Nat} {y : MethodName} {bytes : ByteArray} {maxL : Nat} {rm : Room} {Qc : Option Value → Heap → List Loc → Prop} {a : Addr} {argsL rest st : List Value} {pc pc' : Nat} {Ls : Array Slot} (W : Nat) (hy1 : y.name = "<init>")
    (hown : vm.findClass own = some m.cls) (eT : T.heap = h) (hS : s.Since vm k0) (hk : k0 ≤ h.size) (hlink : (Cond.methodLink own index y).before a0 Z = true) (hinst : (Cond.instanceMethod y).before a0 Z = true) (hinit : (Cond.initialized y.cls).before a0 Z = true) (hcode : (Cond.code y bytes maxL none).before a0 Z = true) (hy : y.cls ≠ "java/lang/invoke/MethodHandle" ∧ y.cls ≠ "java/lang/invoke/VarHandle")
    (hM : MetFree l y (head1 [Cond.code y bytes maxL none] rm) (fun b U => b = (.ref a :: argsL).toArray ∧ Z.Warmed39 U.vm ∧ U.heap = h) (fun _ _ _ _ _ => True) (fun _ U o U' => ∃ v L, o = .returned v ∧ Qc v U'.heap L ∧ ReturnedEndW U o U' L rm.cells rm.slots)) (hf : rm.frames + 1 ≤ R.frames) (hl : W + (maxL + 11) + rm.locals ≤ R.locals)
    (hsize : Ls.size = c.maxLocals) (hlen : ∀ sig, parseMethodDescriptor y.desc = some sig → argsL.length = sig.parameters.length) (hs : st = argsL.reverse ++ .ref a :: rest) (hW : (rest.map fun v => v.category).sum ≤ W) (hd : decode c.code pc = .ok (.invokespecial index, 3)) (hp : pc + 3 = pc') (hc : cells + rm.cells ≤ R.cells) (hsl : slots + rm.slots ≤ R.slots)
    (k : ∀ v T' L vm', Stand p l e R (s.setVm vm') m args below meth c T' (locs ++ L) (cells + rm.cells) (slots + rm.slots) → Qc v T'.heap L → s.Since vm' T'.heap.size → Z.Warmed39 vm' → vm'.findClass own = some m.cls → OGW p e below s Q kc ks T' (mkF m pc' Ls (v.toList ++ rest))) : OGW p e below s Q kc ks T (mkF m pc Ls st) := by
  subst hp hs
  have hZ' : Z.Warmed39 (s.setVm vm).vm := hZ
  have hown' : (s.setVm vm).vm.findClass own = some m.cls := hown
  obtain ⟨v, vm₁, ⟨T1, L1, c1, n1⟩, -, X1, S1, g1, ⟨Lc, hQ, l1, y1, z1⟩, st⟩ := X.specialBackS hx (y := y) hy1 hown' (mvT hZ' hlink) (mvT hZ' hinst) (mvT hZ' hcode) hy (backOfS (W := W) hM hZ' hcode hinit hf hl) (g := mkF m pc Ls (argsL.reverse ++ .ref a :: rest)) rfl hsize (Steps.refl _) (a := a) (argsL := argsL) (rest := rest) hlen rfl (by show 2 * 0 + _ ≤ _; omega) hd (fun _ _ => ⟨rfl, eT, hc, hsl⟩)
  dsimp only [Pt.U, Pt.locs, Pt.cells, Pt.slots] at X1 S1 g1 l1 y1 z1 st hQ
  subst l1 y1 z1
  refine OGW.step (fun t q => st.trans q) (k v T1 Lc T1.vm X1 hQ (hS.trans S1 (Nat.le_trans hk (by rw [← eT]; exact g1))) (State.Warmed39.trans (t := s.setVm vm) hZ S1.1) ?_)
  rw [S1.1.alike.findClass]; exact hown'
theorem w_ldcC {vm : Vm} {k0 : Nat} {EL : List (String × Nat)} (X : Stand p l e R (s.setVm vm) m args below meth c T locs cells slots) (hx : p.tables.exec = Jvm.exec) (hZ : Z.Warmed39 vm) {own text : String} {index : Nat} {pc pc' : Nat} {Ls : Array Slot} {rest : List Value} (hown : vm.findClass own = some m.cls) (w : (Cond.stringLink own index text).before a0 Z = true) (wS : ∀ a ∈ Bundle.stringAtoms, a.before a0 Z = true)
    (eT : T.heap = h) (hS : s.Since vm k0) (hk : k0 ≤ h.size) (hEL : EW Z a0 EL) (hmem : (own, index) ∈ EL) (H : CHv Z EL vm h) {vs : List Value} {z : Int32} (ht : (∀ c ∈ text.toList, c.toNat < 256) ∧ text.toList.map (fun c => Value.int (Jvm.Lit.byteI c.toNat.toUInt16)) = vs) (hz : ¬ z < 0) (hl0 : z.toNatClampNeg = vs.length) (L : List Int32) (hL : z.toNatClampNeg = L.length) (hv : ∀ i, i < L.length → vs.getD i (.int 0) = .int (li L i))
    (hd : decode c.code pc = .ok (.ldc index, 2)) (n : Nat) (hn : 4 * text.toList.length ≤ n) (hbig : n ≤ 536870912) (hc : cells + 2 ≤ R.cells) (hl : slots + (n + 4) ≤ R.slots) (hp : pc + 2 = pc')
    (k : ∀ (a t : Addr) (T' : State) (h' : Heap) (vm' : Vm), Stand p l e R (s.setVm vm') m args below meth c T' locs (cells + 2) (slots + (n + 4)) → T'.heap = h' → Ext h h' → s.Since vm' h'.size → Z.Warmed39 vm' → vm'.findClass own = some m.cls → CHr Z EL vm h vm' h' → Exa Z h' a "java/lang/String" → Fld Z h' a "java/lang/String" "coder" "B" (.int 0) → Fld Z h' a "java/lang/String" "value" "[B" (.ref t) → OAr Z h' t .byte L.length (ci (li L)) → OGW p e below s Q kc ks T' (mkF m pc' Ls (.ref a :: rest))) : OGW p e below s Q kc ks T (mkF m pc Ls rest) := by
  subst hp
  obtain ⟨a, T', h', k1, b, kk, X', e', E', S', q', Z', o', F1, F2, F3, F4, -, -, C', -, -, st⟩ := ldcCH X hx hZ hown w wS eT hS hk hEL hmem H ht hz hl0 (g := mkF m pc Ls rest) rfl hd hn hbig hc hl
  refine OGW.step st (k a b T' h' T'.vm X' e' E' ?_ Z' o' C' F1 F2 F3 (own_arv F4 hL hv))
  exact State.Since.trans S' ((State.WarmedH.refl (s.setVm T'.vm)).since _) q'
theorem w_virtualH {vm : Vm} {k0 : Nat} {EL : List (String × Nat)} (X : Stand p l e R (s.setVm vm) m args below meth c T locs cells slots) (hx : p.tables.exec = Jvm.exec) (hZ : Z.Warmed39 vm) {own C : String} {index : Nat} {y : MethodName} {bytes : ByteArray} {maxL : Nat} {ret : Option FieldType} {rm : Room} {Qc : Option Value → Heap → List Loc → Prop} {a : Addr} {argsL rest st : List Value} {pc pc' : Nat} {Ls : Array Slot} (W : Nat)
    (hown : vm.findClass own = some m.cls) (eT : T.heap = h) (hS : s.Since vm k0) (hk : k0 ≤ h.size) (hEL : EW Z a0 EL) (H : CHv Z EL vm h) (hlink : (Cond.methodLink own index y).before a0 Z = true) (hdecl : (Cond.declares y).before a0 Z = true) (hsel : (Cond.selects C y y).before a0 Z = true) (hinst : (Cond.instanceMethod y).before a0 Z = true) (hinit : (Cond.initialized y.cls).before a0 Z = true) (hcode : (Cond.code y bytes maxL ret).before a0 Z = true) (hy : y.cls ≠ "java/lang/invoke/MethodHandle" ∧ y.cls ≠ "java/lang/invoke/VarHandle")
    (E : Exa Z h a C)
    (hM : MetFree l y (head1 [Cond.code y bytes maxL ret] rm) (fun b U => b = (.ref a :: argsL).toArray ∧ Z.Warmed39 U.vm ∧ U.heap = h ∧ CHv Z EL U.vm h) (fun _ _ _ _ _ => True) (fun _ U o U' => ∃ v L, o = .returned v ∧ Qc v U'.heap L ∧ CHr Z EL U.vm U.heap U'.vm U'.heap ∧ ReturnedEndW U o U' L rm.cells rm.slots)) (hf : rm.frames + 1 ≤ R.frames) (hl : W + (maxL + 11) + rm.locals ≤ R.locals)
    (hsize : Ls.size = c.maxLocals) (hlen : ∀ sig, parseMethodDescriptor y.desc = some sig → argsL.length = sig.parameters.length) (hs : st = argsL.reverse ++ .ref a :: rest) (hW : (rest.map fun v => v.category).sum ≤ W) (hd : decode c.code pc = .ok (.invokevirtual index, 3)) (hp : pc + 3 = pc') (hc : cells + rm.cells ≤ R.cells) (hsl : slots + rm.slots ≤ R.slots)
    (k : ∀ v T' L vm', Stand p l e R (s.setVm vm') m args below meth c T' (locs ++ L) (cells + rm.cells) (slots + rm.slots) → Qc v T'.heap L → s.Since vm' T'.heap.size → Z.Warmed39 vm' → vm'.findClass own = some m.cls → CHr Z EL vm h vm' T'.heap → OGW p e below s Q kc ks T' (mkF m pc' Ls (v.toList ++ rest))) : OGW p e below s Q kc ks T (mkF m pc Ls st) := by
  subst hp hs
  have hZ' : Z.Warmed39 (s.setVm vm).vm := hZ
  have hown' : (s.setVm vm).vm.findClass own = some m.cls := hown
  obtain ⟨cq, kq, qa, qb, qc⟩ := isOf (s := s.setVm vm) hZ' eT E
  obtain ⟨v, vm₁, ⟨T1, L1, c1, n1⟩, -, X1, S1, g1, ⟨Lc, hQ, l1, y1, z1, C1⟩, st⟩ := X.virtualBackS hx (y := y) (z := y) hown' (mvT hZ' hlink) (mvT hZ' hdecl) (notFace_of_selects (args := #[]) (mvT hZ' hsel)) (mvT hZ' hsel) (mvT hZ' hinst) hy (backOfSH (W := W) hM hZ hcode hinit hf hl hEL H) qa qc (g := mkF m pc Ls (argsL.reverse ++ .ref a :: rest)) rfl hsize (Steps.refl _) (argsL := argsL) (rest := rest) hlen rfl (by show 2 * 0 + _ ≤ _; omega) hd (fun _ _ => ⟨rfl, eT, hc, hsl⟩)
  dsimp only [Pt.U, Pt.locs, Pt.cells, Pt.slots] at X1 S1 g1 l1 y1 z1 st hQ C1
  subst l1 y1 z1
  refine OGW.step (fun t q => st.trans q) (k v T1 Lc T1.vm X1 hQ (hS.trans S1 (Nat.le_trans hk (by rw [← eT]; exact g1))) (State.Warmed39.trans (t := s.setVm vm) hZ S1.1) ?_ C1)
  rw [S1.1.alike.findClass]; exact hown'
end OwnW
section OwnV
variable {p : Program} {l : Launch} {e : Env} {R : Room} {s sv : State} {m : MethodId} {args : Array Value} {below : List Frame} {meth : Method} {c : Code} {T : State} {locs : List Loc} {cells slots : Nat} {Q : Option Value → State → List Loc → Prop} {kc ks : Nat}
/-- as OG; string constants may have been interned meanwhile -/
def OGV (p : Program) (e : Env) (below : List Frame) (s : State) (Q : Option Value → State → List Loc → Prop) (kc ks : Nat) (T : State) (g : JFrame) : Prop :=
  ∃ s₂ o, Steps p.tables e below (T.setTop g) s₂ ∧ s₂.status = .running ∧ Ended s₂ below o ∧ ∃ v L, o = .returned v ∧ Q v s₂ L ∧ ReturnedEndW s o s₂ L kc ks
theorem OGV.step {T' : State} {g g' : JFrame} (st : ∀ t, Steps p.tables e below (T'.setTop g') t → Steps p.tables e below (T.setTop g) t) (h : OGV p e below s Q kc ks T' g') : OGV p e below s Q kc ks T g := by
  obtain ⟨s₂, o, h1, h2⟩ := h
  exact ⟨s₂, o, st _ h1, h2⟩
theorem OGV.cast {g g' : JFrame} (q : g = g') (h : OGV p e below s Q kc ks T g') : OGV p e below s Q kc ks T g := q ▸ h
theorem v_lcmp (X : Stand p l e R sv m args below meth c T locs cells slots) (hx : p.tables.exec = Jvm.exec) {pc pc' : Nat} {Ls : Array Slot} {x y : Int64} {rest : List Value} (hd : decode c.code pc = .ok (.lcmp, 1)) (hp : pc + 1 = pc') (h : OGV p e below s Q kc ks T (mkF m pc' Ls (.int (lcmpW x y) :: rest))) : OGV p e below s Q kc ks T (mkF m pc Ls (.long y :: .long x :: rest)) := by
  subst hp; exact OGV.step (fun t q => XS.lcmp X.here hx rfl hd rfl q) h
theorem v_lconst (X : Stand p l e R sv m args below meth c T locs cells slots) (hx : p.tables.exec = Jvm.exec) {pc pc' : Nat} {Ls : Array Slot} {i : Fin 2} {rest : List Value} (hd : decode c.code pc = .ok (.lconst i, 1)) (w : Int64) (hv : Int64.ofNat i = w) (hp : pc + 1 = pc') (h : OGV p e below s Q kc ks T (mkF m pc' Ls (.long w :: rest))) : OGV p e below s Q kc ks T (mkF m pc Ls (rest)) := by
  subst hp hv; exact OGV.step (fun t q => XS.lconst X.here hx rfl hd q) h
theorem v_aconst_null (X : Stand p l e R sv m args below meth c T locs cells slots) (hx : p.tables.exec = Jvm.exec) {pc pc' : Nat} {Ls : Array Slot} {rest : List Value} (hd : decode c.code pc = .ok (.aconst_null, 1)) (hp : pc + 1 = pc') (h : OGV p e below s Q kc ks T (mkF m pc' Ls (.null :: rest))) : OGV p e below s Q kc ks T (mkF m pc Ls (rest)) := by
  subst hp; exact OGV.step (fun t q => XS.aconstNull X.here hx rfl hd q) h
theorem v_aload_n (X : Stand p l e R sv m args below meth c T locs cells slots) (hx : p.tables.exec = Jvm.exec) {pc pc' : Nat} {Ls : Array Slot} {i : Fin 4} {x : Value} {rest : List Value} (hd : decode c.code pc = .ok (.aload_n i, 1)) (hl : Ls[i.val]? = some (.val x)) (hv : x.isRef = true) (hp : pc + 1 = pc') (h : OGV p e below s Q kc ks T (mkF m pc' Ls (x :: rest))) : OGV p e below s Q kc ks T (mkF m pc Ls (rest)) := by
  subst hp; exact OGV.step (fun t q => XS.aloadN X.here hx rfl hd hl hv q) h
theorem v_astore_n (X : Stand p l e R sv m args below meth c T locs cells slots) (hx : p.tables.exec = Jvm.exec) {pc pc' : Nat} {Ls : Array Slot} {i : Fin 4} {x : Value} {rest : List Value} (hd : decode c.code pc = .ok (.astore_n i, 1)) (hv : x.isRef = true) (l' : Array Slot) (hl : storeLocals Ls i.val x = some l') (hp : pc + 1 = pc') (h : OGV p e below s Q kc ks T (mkF m pc' l' (rest))) : OGV p e below s Q kc ks T (mkF m pc Ls (x :: rest)) := by
  subst hp; exact OGV.step (fun t q => XS.astoreN X.here hx rfl hd rfl hv hl q) h
theorem v_goto (X : Stand p l e R sv m args below meth c T locs cells slots) (hx : p.tables.exec = Jvm.exec) {pc pc' : Nat} {Ls : Array Slot} {rest : List Value} {o : Int} (hd : decode c.code pc = .ok (.goto o, 3)) (ho : 0 ≤ (pc : Int) + o) (hp : ((pc : Int) + o).toNat = pc') (h : OGV p e below s Q kc ks T (mkF m pc' Ls rest)) : OGV p e below s Q kc ks T (mkF m pc Ls rest) :=
  OGV.step (fun t q => XS.goto X.here hx rfl rfl hd ho hp q) h
theorem v_ifYes (X : Stand p l e R sv m args below meth c T locs cells slots) (hx : p.tables.exec = Jvm.exec) {pc pc' : Nat} {Ls : Array Slot} {rest : List Value} {o : Int} {cd : ClassFile.Cond} {x : Int32} (hd : decode c.code pc = .ok (.ifCond cd o, 3)) (hc : ifCond.holds cd x = true) (ho : 0 ≤ (pc : Int) + o) (hp : ((pc : Int) + o).toNat = pc') (h : OGV p e below s Q kc ks T (mkF m pc' Ls rest)) : OGV p e below s Q kc ks T (mkF m pc Ls (.int x :: rest)) :=
  OGV.step (fun t q => XS.ifYes X.here hx rfl rfl hd rfl hc ho hp q) h
theorem v_ifNo (X : Stand p l e R sv m args below meth c T locs cells slots) (hx : p.tables.exec = Jvm.exec) {pc pc' : Nat} {Ls : Array Slot} {rest : List Value} {o : Int} {cd : ClassFile.Cond} {x : Int32} (hd : decode c.code pc = .ok (.ifCond cd o, 3)) (hc : ifCond.holds cd x = false) (hp : pc + 3 = pc') (h : OGV p e below s Q kc ks T (mkF m pc' Ls rest)) : OGV p e below s Q kc ks T (mkF m pc Ls (.int x :: rest)) := by
  subst hp; exact OGV.step (fun t q => XS.ifNo X.here hx rfl hd rfl hc q) h
variable {Z : State} {a0 : Array Value} {h : Heap}
theorem v_getF (X : Stand p l e R sv m args below meth c T locs cells slots) (hx : p.tables.exec = Jvm.exec) (hZ : Z.Warmed39 sv.vm) {own R0 O n d : String} {index : Nat} {a : Addr} {v : Value} {pc pc' : Nat} {Ls : Array Slot} {rest : List Value} (hown : sv.vm.findClass own = some m.cls) (eT : T.heap = h) (w : (Cond.fieldLink own index R0 n d).before a0 Z = true) (via : Via Z R0 O n d) (F : Fld Z h a O n d v) (hd : decode c.code pc = .ok (.getfield index, 3)) (hp : pc + 3 = pc')
    (k : ∀ T', Stand p l e R sv m args below meth c T' locs cells slots → T'.heap = h → OGV p e below s Q kc ks T' (mkF m pc' Ls (v :: rest))) : OGV p e below s Q kc ks T (mkF m pc Ls (.ref a :: rest)) := by
  subst hp
  obtain ⟨T1, X1, e1, st1⟩ := getF X hx hZ hown (host := "") (Or.inl w) via eT F (g := mkF m pc Ls (.ref a :: rest)) rfl rfl hd
  exact OGV.step st1 (k T1 X1 e1)
theorem v_retA {vm : Vm} {k0 : Nat} (X : Stand p l e R (s.setVm vm) m args below meth c T locs cells slots) (hS : s.Since vm k0) (hk : k0 ≤ T.heap.size) (hx : p.tables.exec = Jvm.exec) (hlk : meth.locks = false) {pc : Nat} {Ls : Array Slot} {rest : List Value} {w : Value} {t : FieldType} (hret : meth.sig.returnType = some t) (ht : t.isReference = true) (hw : w.isRef = true) (hn : narrow t w = w) (hd : decode c.code pc = .ok (.areturn, 1)) (hQ : ∀ fs, Q (some w) (T.setFrames fs) locs) (h1 : cells ≤ kc) (h2 : slots ≤ ks) : OGV p e below s Q kc ks T (mkF m pc Ls (w :: rest)) := by
  obtain ⟨fs, hr, hrun, hended, e1, e2, e3, e4⟩ := X.leaveW hS hk (v := some w) (fun h => by rw [hret] at h; cases h) hlk
  exact ⟨_, _, retOut X hx hret hn (Or.inr (Or.inr (Or.inr (Or.inr ⟨rfl, ht, hw⟩)))) hd hr, hrun, hended, _, _, rfl, hQ fs, e1, e2, e3, e4.mono h1 h2⟩
theorem v_ldcC {vm : Vm} {k0 : Nat} {EL : List (String × Nat)} (X : Stand p l e R (s.setVm vm) m args below meth c T locs cells slots) (hx : p.tables.exec = Jvm.exec) (hZ : Z.Warmed39 vm) {own text : String} {index : Nat} {pc pc' : Nat} {Ls : Array Slot} {rest : List Value} (hown : vm.findClass own = some m.cls) (w : (Cond.stringLink own index text).before a0 Z = true) (wS : ∀ a ∈ Bundle.stringAtoms, a.before a0 Z = true)
    (eT : T.heap = h) (hS : s.Since vm k0) (hk : k0 ≤ h.size) (hEL : EW Z a0 EL) (hmem : (own, index) ∈ EL) (H : CHv Z EL vm h) {vs : List Value} {z : Int32} (ht : (∀ c ∈ text.toList, c.toNat < 256) ∧ text.toList.map (fun c => Value.int (Jvm.Lit.byteI c.toNat.toUInt16)) = vs) (hz : ¬ z < 0) (hl0 : z.toNatClampNeg = vs.length) (L : List Int32) (hL : z.toNatClampNeg = L.length) (hv : ∀ i, i < L.length → vs.getD i (.int 0) = .int (li L i))
    (hd : decode c.code pc = .ok (.ldc index, 2)) (n : Nat) (hn : 4 * text.toList.length ≤ n) (hbig : n ≤ 536870912) (hc : cells + 2 ≤ R.cells) (hl : slots + (n + 4) ≤ R.slots) (hp : pc + 2 = pc')
    (k : ∀ (a t : Addr) (T' : State) (h' : Heap) (vm' : Vm), Stand p l e R (s.setVm vm') m args below meth c T' locs (cells + 2) (slots + (n + 4)) → T'.heap = h' → Ext h h' → s.Since vm' h'.size → Z.Warmed39 vm' → vm'.findClass own = some m.cls → CHr Z EL vm h vm' h' → Exa Z h' a "java/lang/String" → Fld Z h' a "java/lang/String" "coder" "B" (.int 0) → Fld Z h' a "java/lang/String" "value" "[B" (.ref t) → OAr Z h' t .byte L.length (ci (li L)) → OGV p e below s Q kc ks T' (mkF m pc' Ls (.ref a :: rest))) : OGV p e below s Q kc ks T (mkF m pc Ls rest) := by
  subst hp
  obtain ⟨a, T', h', k1, b, kk, X', e', E', S', q', Z', o', F1, F2, F3, F4, -, -, C', -, -, st⟩ := ldcCH X hx hZ hown w wS eT hS hk hEL hmem H ht hz hl0 (g := mkF m pc Ls rest) rfl hd hn hbig hc hl
  refine OGV.step st (k a b T' h' T'.vm X' e' E' ?_ Z' o' C' F1 F2 F3 (own_arv F4 hL hv))
  exact State.Since.trans S' ((State.WarmedH.refl (s.setVm T'.vm)).since _) q'

end OwnV
theorem own_wS {Z : State} {a0 : Array Value} (hw : ∀ d ∈ tables_1, d.before a0 Z = true) : ∀ a ∈ Bundle.stringAtoms, a.before a0 Z = true := by
  intro a ha
  simp only [Bundle.stringAtoms, Bundle.sN, List.mem_cons, List.not_mem_nil, or_false] at ha
  rcases ha with rfl | rfl | rfl | rfl | rfl | rfl | rfl
  · exact hw _ (List.mem_of_getElem? (i := 32) rfl)
  · exact hw _ (List.mem_of_getElem? (i := 33) rfl)
  · exact hw _ (List.mem_of_getElem? (i := 34) rfl)
  · exact hw _ (List.mem_of_getElem? (i := 35) rfl)
  · exact hw _ (List.mem_of_getElem? (i := 36) rfl)
  · exact hw _ (List.mem_of_getElem? (i := 37) rfl)
  · exact hw _ (List.mem_of_getElem? (i := 38) rfl)
theorem own_EW {Z : State} {a0 : Array Value} (hw : ∀ d ∈ tables_1, d.before a0 Z = true) : EW Z a0 consts_1 := EW.cons (hw _ (List.mem_of_getElem? (i := 31) rfl)) (by decide) (EW.cons (hw _ (List.mem_of_getElem? (i := 57) rfl)) (by decide) (EW.cons (hw _ (List.mem_of_getElem? (i := 45) rfl)) (by decide) (EW.cons (hw _ (List.mem_of_getElem? (i := 39) rfl)) (by decide) (EW.cons (hw _ (List.mem_of_getElem? (i := 55) rfl)) (by decide) (EW.cons (hw _ (List.mem_of_getElem? (i := 56) rfl)) (by decide) (EW.nil))))))
def UV (Z : State) (rt sz es : Int64) (v : Option Value) (h : Heap) : Prop := (rt < 0 ∧ ∃ a : Addr, v = some (.ref a) ∧ SAt Z h a [(114 : Int32), (117 : Int32), (110 : Int32), (32 : Int32), (116 : Int32), (105 : Int32), (109 : Int32), (101 : Int32)]) ∨ (¬ rt < 0 ∧ sz < 1 ∧ ∃ a : Addr, v = some (.ref a) ∧ SAt Z h a [(115 : Int32), (105 : Int32), (122 : Int32), (101 : Int32)]) ∨ (¬ rt < 0 ∧ ¬ sz < 1 ∧ es < 0 ∧ ∃ a : Addr, v = some (.ref a) ∧ SAt Z h a [(101 : Int32), (115 : Int32), (116 : Int32), (105 : Int32), (109 : Int32), (97 : Int32), (116 : Int32), (101 : Int32)]) ∨ (¬ rt < 0 ∧ ¬ sz < 1 ∧ ¬ es < 0 ∧ v = some .null)
theorem d2_0 : decode jdk_30_method_1_code 0 = .ok (.aload_n 0, 1) := by decide +kernel
theorem d2_1 : decode jdk_30_method_1_code 1 = .ok (.invokespecial 1, 3) := by decide +kernel
theorem d2_4 : decode jdk_30_method_1_code 4 = .ok (.return_, 1) := by decide +kernel
def f2_0  : Unit := ()
set_option maxRecDepth 65536 in
set_option maxHeartbeats 40000000 in
theorem b2_0 {p : Program} {l : Launch} {e : Env} {s : State} {m : MethodId} {args : Array Value} {below : List Frame} {meth : Method} {c : Code} {Z : State} {a0 : Array Value} {h0 : Heap} {n0 : Nat} (hx : p.tables.exec = Jvm.exec) (hZ : Z.Warmed39 s.vm) (hw : ∀ d ∈ tables_1, d.before a0 Z = true) (hby : c.code = jdk_30_method_1_code) (hml : c.maxLocals = 1) (hown : s.vm.findClass "java/lang/Record" = some m.cls) (hnm : meth.name = "<init>") (hret : meth.sig.returnType = none) (hlk : meth.locks = false) (o0 : Addr) {T : State} {locs : List Loc}  (r : Unit) (X : Stand p l e ({ frames := 1, cells := 0, slots := 0, locals := 12 } : Room) s m args below meth c T locs 0 0) (eT : T.heap = h0) (N : Fr n0 locs) (Z0 : n0 ≤ h0.size) (hr : f2_0  = r) :
    OG p e below s (fun v h L => v = none ∧ Fr n0 L ∧ h = h0) 0 0 T (mkF m 0 #[.val (.ref o0)] []) := by
  have hr : () = r := hr
  refine o_aload_n X hx (hb hby d2_0) rfl rfl (pc' := 1) rfl ?_
  refine o_initO X hx hZ 0 hown eT (hw _ (List.mem_of_getElem? (i := 11) rfl)) (hw _ (List.mem_of_getElem? (i := 12) rfl)) (hw _ (List.mem_of_getElem? (i := 13) rfl)) (by rw [hml]; rfl) (hb hby d2_1) (by decide) (Nat.le_refl _) (by decide) (pc' := 4) rfl ?_
  intro T1 X1 e1
  subst hr
  exact o_ret X1 hx hlk hret (hb hby d2_4) ⟨rfl, N, e1⟩ (by decide) (by decide)
theorem pn_2 : plainName "java/lang/Record" = true := by first | (simp [plainName, overriddenIn]; done) | decide +kernel
theorem ef_2 (m : MethodId) (o0 : Addr) : entryFrame m #[(.ref o0)] 1 = (mkF m 0 #[.val (.ref o0)] []) := by first | (simp [entryFrame, mkF, argsToLocals, Value.category]; done) | rfl
def Qd2 (Z : State) (h0 : Heap) (n0 : Nat) (o0 : Addr) : Option Value → Heap → List Loc → Prop := (fun v h L => v = none ∧ Fr n0 L ∧ h = h0)
set_option maxRecDepth 65536 in
set_option maxHeartbeats 40000000 in
theorem rm2 (l : Launch) (Z : State) (a0 : Array Value) (hw : ∀ d ∈ tables_1, d.before a0 Z = true) (ws : List Jvm.Cond) (o0 : Addr) (h0 : Heap) (n0 : Nat) (Z0 : n0 ≤ h0.size) :
    MetFree l (⟨"java/lang/Record", "<init>", "()V"⟩ : MethodName) (head1 (Jvm.Cond.code (⟨"java/lang/Record", "<init>", "()V"⟩ : MethodName) jdk_30_method_1_code 1 none :: ws) ({ frames := 1, cells := 0, slots := 0, locals := 12 } : Room)) (fun a U => a = #[(.ref o0)] ∧ Z.Warmed39 U.vm ∧ U.heap = h0) (fun _ _ _ _ _ => True) (fun _ U o U' => ∃ v L, o = .returned v ∧ (Qd2 Z h0 n0 o0) v U'.heap L ∧ FrameEnd U o U' L ({ frames := 1, cells := 0, slots := 0, locals := 12 } : Room).cells ({ frames := 1, cells := 0, slots := 0, locals := 12 } : Room).slots) := by
  refine MetFree.of_bodySF (plainFor_of_name pn_2) hisR ?_
  intro p e s m args below meth c s₁ Bd hml0 hP hK
  obtain ⟨rfl, hZ, hh⟩ := hP
  have e0 : s₁.heap = h0 := by rw [← hh, Bd.state]; rfl
  exact OG.cast (ef_2 m o0) (b2_0 Bd.exec hZ hw Bd.bytes hml0 (findClass_of_methodNamed Bd.named) (name_of_methodNamed Bd.named Bd.method).1 Bd.returns Bd.notSynchronized o0  () (Stand.of_body Bd) e0 (Fr.nil n0) Z0 rfl)
theorem d1_0 : decode prog_73_method_2_code 0 = .ok (.aload_n 0, 1) := by decide +kernel
theorem d1_1 : decode prog_73_method_2_code 1 = .ok (.invokespecial 1, 3) := by decide +kernel
theorem pd_0 : parseMethodDescriptor "()V" = some ⟨[], none⟩ := by decide +kernel
theorem d1_4 : decode prog_73_method_2_code 4 = .ok (.aload_n 0, 1) := by decide +kernel
theorem d1_5 : decode prog_73_method_2_code 5 = .ok (.lload_n 1, 1) := by decide +kernel
theorem d1_6 : decode prog_73_method_2_code 6 = .ok (.putfield 7, 3) := by decide +kernel
theorem d1_9 : decode prog_73_method_2_code 9 = .ok (.aload_n 0, 1) := by decide +kernel
theorem d1_10 : decode prog_73_method_2_code 10 = .ok (.lload_n 3, 1) := by decide +kernel
theorem d1_11 : decode prog_73_method_2_code 11 = .ok (.putfield 13, 3) := by decide +kernel
theorem d1_14 : decode prog_73_method_2_code 14 = .ok (.aload_n 0, 1) := by decide +kernel
theorem d1_15 : decode prog_73_method_2_code 15 = .ok (.lload 5, 2) := by decide +kernel
theorem d1_17 : decode prog_73_method_2_code 17 = .ok (.putfield 16, 3) := by decide +kernel
theorem d1_20 : decode prog_73_method_2_code 20 = .ok (.aload_n 0, 1) := by decide +kernel
theorem d1_21 : decode prog_73_method_2_code 21 = .ok (.lload 7, 2) := by decide +kernel
theorem d1_23 : decode prog_73_method_2_code 23 = .ok (.putfield 19, 3) := by decide +kernel
theorem d1_26 : decode prog_73_method_2_code 26 = .ok (.aload_n 0, 1) := by decide +kernel
theorem d1_27 : decode prog_73_method_2_code 27 = .ok (.lload 9, 2) := by decide +kernel
theorem d1_29 : decode prog_73_method_2_code 29 = .ok (.putfield 22, 3) := by decide +kernel
theorem d1_32 : decode prog_73_method_2_code 32 = .ok (.aload_n 0, 1) := by decide +kernel
theorem d1_33 : decode prog_73_method_2_code 33 = .ok (.iload 11, 2) := by decide +kernel
theorem d1_35 : decode prog_73_method_2_code 35 = .ok (.putfield 25, 3) := by decide +kernel
theorem d1_38 : decode prog_73_method_2_code 38 = .ok (.return_, 1) := by decide +kernel
def f1_0 (x1 : Int64) (x3 : Int64) (x5 : Int64) (x7 : Int64) (x9 : Int64) (x11 : Int32) : Int64 × Int64 × Int64 × Int64 × Int64 × Int32 := (x1, x3, x5, x7, x9, x11)
set_option maxRecDepth 65536 in
set_option maxHeartbeats 40000000 in
theorem b1_0 {p : Program} {l : Launch} {e : Env} {s : State} {m : MethodId} {args : Array Value} {below : List Frame} {meth : Method} {c : Code} {Z : State} {a0 : Array Value} {h0 : Heap} {n0 : Nat} (hx : p.tables.exec = Jvm.exec) (hZ : Z.Warmed39 s.vm) (hw : ∀ d ∈ tables_1, d.before a0 Z = true) (hby : c.code = prog_73_method_2_code) (hml : c.maxLocals = 12) (hown : s.vm.findClass "com/example/gangway/gangway/model/Job" = some m.cls) (hnm : meth.name = "<init>") (hret : meth.sig.returnType = none) (hlk : meth.locks = false) (o0 : Addr) {T : State} {locs : List Loc} {h : Heap} (u_number : Value) (u_submit : Value) (u_runTime : Value) (u_size : Value) (u_estimate : Value) (u_user : Value) (x1 : Int64) (x3 : Int64) (x5 : Int64) (x7 : Int64) (x9 : Int64) (x11 : Int32) (r : Int64 × Int64 × Int64 × Int64 × Int64 × Int32) (X : Stand p l e ({ frames := 2, cells := 0, slots := 0, locals := 24 } : Room) s m args below meth c T locs 0 0) (eT : T.heap = h) (N : Fr n0 locs) (hsz : n0 ≤ h.size) (K : Keep h0 h [o0]) (E_o0 : Exa Z h o0 "com/example/gangway/gangway/model/Job") (F_o0_number : Fld Z h o0 "com/example/gangway/gangway/model/Job" "number" "J" u_number) (F_o0_submit : Fld Z h o0 "com/example/gangway/gangway/model/Job" "submit" "J" u_submit) (F_o0_runTime : Fld Z h o0 "com/example/gangway/gangway/model/Job" "runTime" "J" u_runTime) (F_o0_size : Fld Z h o0 "com/example/gangway/gangway/model/Job" "size" "J" u_size) (F_o0_estimate : Fld Z h o0 "com/example/gangway/gangway/model/Job" "estimate" "J" u_estimate) (F_o0_user : Fld Z h o0 "com/example/gangway/gangway/model/Job" "user" "I" u_user) (g_o0 : n0 ≤ o0) (hr : f1_0 x1 x3 x5 x7 x9 x11 = r) :
    OG p e below s (fun v h L => v = none ∧ Fr n0 L ∧ Keep h0 h [o0] ∧ Exa Z h o0 "com/example/gangway/gangway/model/Job" ∧ Fld Z h o0 "com/example/gangway/gangway/model/Job" "number" "J" (.long r.1) ∧ Fld Z h o0 "com/example/gangway/gangway/model/Job" "submit" "J" (.long r.2.1) ∧ Fld Z h o0 "com/example/gangway/gangway/model/Job" "runTime" "J" (.long r.2.2.1) ∧ Fld Z h o0 "com/example/gangway/gangway/model/Job" "size" "J" (.long r.2.2.2.1) ∧ Fld Z h o0 "com/example/gangway/gangway/model/Job" "estimate" "J" (.long r.2.2.2.2.1) ∧ Fld Z h o0 "com/example/gangway/gangway/model/Job" "user" "I" (.int r.2.2.2.2.2)) 0 0 T (mkF m 0 #[.val (.ref o0), .val (.long x1), .second, .val (.long x3), .second, .val (.long x5), .second, .val (.long x7), .second, .val (.long x9), .second, .val (.int x11)] []) := by
  have hr : (x1, x3, x5, x7, x9, x11) = r := hr
  refine o_aload_n X hx (hb hby d1_0) rfl rfl (pc' := 1) rfl ?_
  refine o_special X hx hZ (argsL := []) (rest := []) (a := o0) 0 rfl hown eT (hw _ (List.mem_of_getElem? (i := 6) rfl)) (hw _ (List.mem_of_getElem? (i := 7) rfl)) (hw _ (List.mem_of_getElem? (i := 9) rfl)) (hw _ (List.mem_of_getElem? (i := 10) rfl)) (by decide) (rm2 l Z a0 hw [] o0 h n0 hsz) (by decide) (by decide) (by rw [hml]; rfl) (lenOf pd_0 rfl) rfl (Nat.le_refl _) (hb hby d1_1) (pc' := 4) rfl (by decide) (by decide) ?_
  rintro _ T1 L1 X1 ⟨rfl, N1, e1⟩
  replace X1 : Stand p l e ({ frames := 2, cells := 0, slots := 0, locals := 24 } : Room) s m args below meth c T1 (locs ++ L1) 0 0 := X1
  have M1 := Fr.app N N1
  dsimp only [Option.toList, List.cons_append, List.nil_append]
  refine o_aload_n X1 hx (hb hby d1_4) rfl rfl (pc' := 5) rfl ?_
  refine o_lload_n X1 hx (hb hby d1_5) rfl (pc' := 6) rfl ?_
  refine o_putF X1 hx hZ hown e1 (hw _ (List.mem_of_getElem? (i := 14) rfl)) Via.refl F_o0_number E_o0 (Or.inr ⟨(hw _ (List.mem_of_getElem? (i := 15) rfl)), rfl, hnm⟩) (hw _ (List.mem_of_getElem? (i := 1) rfl)) (ty := .long) (by decide) rfl rfl (hb hby d1_6) (pc' := 9) rfl ?_
  intro T2 h2 X2 e2 W2
  have F2_o0_number := Fld.same W2 F_o0_number
  have A2_o0 := Exa.wr W2 E_o0
  have F2_o0_submit := Fld.other W2 F_o0_submit (Or.inr (slot_ne (Or.inr (hw _ (List.mem_of_getElem? (i := 17) rfl))) (Or.inr (hw _ (List.mem_of_getElem? (i := 15) rfl))) (by decide) (t := .long) (t' := .long) (by decide) (by decide)))
  have F2_o0_runTime := Fld.other W2 F_o0_runTime (Or.inr (slot_ne (Or.inr (hw _ (List.mem_of_getElem? (i := 19) rfl))) (Or.inr (hw _ (List.mem_of_getElem? (i := 15) rfl))) (by decide) (t := .long) (t' := .long) (by decide) (by decide)))
  have F2_o0_size := Fld.other W2 F_o0_size (Or.inr (slot_ne (Or.inr (hw _ (List.mem_of_getElem? (i := 21) rfl))) (Or.inr (hw _ (List.mem_of_getElem? (i := 15) rfl))) (by decide) (t := .long) (t' := .long) (by decide) (by decide)))
  have F2_o0_estimate := Fld.other W2 F_o0_estimate (Or.inr (slot_ne (Or.inr (hw _ (List.mem_of_getElem? (i := 23) rfl))) (Or.inr (hw _ (List.mem_of_getElem? (i := 15) rfl))) (by decide) (t := .long) (t' := .long) (by decide) (by decide)))
  have F2_o0_user := Fld.other W2 F_o0_user (Or.inr (slot_ne (Or.inr (hw _ (List.mem_of_getElem? (i := 25) rfl))) (Or.inr (hw _ (List.mem_of_getElem? (i := 15) rfl))) (by decide) (t := .int) (t' := .long) (by decide) (by decide)))
  have N2 := Fr.snoc X2 M1 g_o0
  have z2 : n0 ≤ h2.size := Nat.le_trans hsz (Keep.of_wr W2).1
  have K2 := Keep.wr K W2 (Or.inl (by simp))
  refine o_aload_n X2 hx (hb hby d1_9) rfl rfl (pc' := 10) rfl ?_
  refine o_lload_n X2 hx (hb hby d1_10) rfl (pc' := 11) rfl ?_
  refine o_putF X2 hx hZ hown e2 (hw _ (List.mem_of_getElem? (i := 16) rfl)) Via.refl F2_o0_submit A2_o0 (Or.inr ⟨(hw _ (List.mem_of_getElem? (i := 17) rfl)), rfl, hnm⟩) (hw _ (List.mem_of_getElem? (i := 1) rfl)) (ty := .long) (by decide) rfl rfl (hb hby d1_11) (pc' := 14) rfl ?_
  intro T3 h3 X3 e3 W3
  have F3_o0_submit := Fld.same W3 F2_o0_submit
  have A3_o0 := Exa.wr W3 A2_o0
  have F3_o0_number := Fld.other W3 F2_o0_number (Or.inr (slot_ne (Or.inr (hw _ (List.mem_of_getElem? (i := 15) rfl))) (Or.inr (hw _ (List.mem_of_getElem? (i := 17) rfl))) (by decide) (t := .long) (t' := .long) (by decide) (by decide)))
  have F3_o0_runTime := Fld.other W3 F2_o0_runTime (Or.inr (slot_ne (Or.inr (hw _ (List.mem_of_getElem? (i := 19) rfl))) (Or.inr (hw _ (List.mem_of_getElem? (i := 17) rfl))) (by decide) (t := .long) (t' := .long) (by decide) (by decide)))
  have F3_o0_size := Fld.other W3 F2_o0_size (Or.inr (slot_ne (Or.inr (hw _ (List.mem_of_getElem? (i := 21) rfl))) (Or.inr (hw _ (List.mem_of_getElem? (i := 17) rfl))) (by decide) (t := .long) (t' := .long) (by decide) (by decide)))
  have F3_o0_estimate := Fld.other W3 F2_o0_estimate (Or.inr (slot_ne (Or.inr (hw _ (List.mem_of_getElem? (i := 23) rfl))) (Or.inr (hw _ (List.mem_of_getElem? (i := 17) rfl))) (by decide) (t := .long) (t' := .long) (by decide) (by decide)))
  have F3_o0_user := Fld.other W3 F2_o0_user (Or.inr (slot_ne (Or.inr (hw _ (List.mem_of_getElem? (i := 25) rfl))) (Or.inr (hw _ (List.mem_of_getElem? (i := 17) rfl))) (by decide) (t := .int) (t' := .long) (by decide) (by decide)))
  have N3 := Fr.snoc X3 N2 g_o0
  have z3 : n0 ≤ h3.size := Nat.le_trans z2 (Keep.of_wr W3).1
  have K3 := Keep.wr K2 W3 (Or.inl (by simp))
  refine o_aload_n X3 hx (hb hby d1_14) rfl rfl (pc' := 15) rfl ?_
  refine o_lload X3 hx (hb hby d1_15) rfl (pc' := 17) rfl ?_
  refine o_putF X3 hx hZ hown e3 (hw _ (List.mem_of_getElem? (i := 18) rfl)) Via.refl F3_o0_runTime A3_o0 (Or.inr ⟨(hw _ (List.mem_of_getElem? (i := 19) rfl)), rfl, hnm⟩) (hw _ (List.mem_of_getElem? (i := 1) rfl)) (ty := .long) (by decide) rfl rfl (hb hby d1_17) (pc' := 20) rfl ?_
  intro T4 h4 X4 e4 W4
  have F4_o0_runTime := Fld.same W4 F3_o0_runTime
  have A4_o0 := Exa.wr W4 A3_o0
  have F4_o0_number := Fld.other W4 F3_o0_number (Or.inr (slot_ne (Or.inr (hw _ (List.mem_of_getElem? (i := 15) rfl))) (Or.inr (hw _ (List.mem_of_getElem? (i := 19) rfl))) (by decide) (t := .long) (t' := .long) (by decide) (by decide)))
  have F4_o0_submit := Fld.other W4 F3_o0_submit (Or.inr (slot_ne (Or.inr (hw _ (List.mem_of_getElem? (i := 17) rfl))) (Or.inr (hw _ (List.mem_of_getElem? (i := 19) rfl))) (by decide) (t := .long) (t' := .long) (by decide) (by decide)))
  have F4_o0_size := Fld.other W4 F3_o0_size (Or.inr (slot_ne (Or.inr (hw _ (List.mem_of_getElem? (i := 21) rfl))) (Or.inr (hw _ (List.mem_of_getElem? (i := 19) rfl))) (by decide) (t := .long) (t' := .long) (by decide) (by decide)))
  have F4_o0_estimate := Fld.other W4 F3_o0_estimate (Or.inr (slot_ne (Or.inr (hw _ (List.mem_of_getElem? (i := 23) rfl))) (Or.inr (hw _ (List.mem_of_getElem? (i := 19) rfl))) (by decide) (t := .long) (t' := .long) (by decide) (by decide)))
  have F4_o0_user := Fld.other W4 F3_o0_user (Or.inr (slot_ne (Or.inr (hw _ (List.mem_of_getElem? (i := 25) rfl))) (Or.inr (hw _ (List.mem_of_getElem? (i := 19) rfl))) (by decide) (t := .int) (t' := .long) (by decide) (by decide)))
  have N4 := Fr.snoc X4 N3 g_o0
  have z4 : n0 ≤ h4.size := Nat.le_trans z3 (Keep.of_wr W4).1
  have K4 := Keep.wr K3 W4 (Or.inl (by simp))
  refine o_aload_n X4 hx (hb hby d1_20) rfl rfl (pc' := 21) rfl ?_
  refine o_lload X4 hx (hb hby d1_21) rfl (pc' := 23) rfl ?_
  refine o_putF X4 hx hZ hown e4 (hw _ (List.mem_of_getElem? (i := 20) rfl)) Via.refl F4_o0_size A4_o0 (Or.inr ⟨(hw _ (List.mem_of_getElem? (i := 21) rfl)), rfl, hnm⟩) (hw _ (List.mem_of_getElem? (i := 1) rfl)) (ty := .long) (by decide) rfl rfl (hb hby d1_23) (pc' := 26) rfl ?_
  intro T5 h5 X5 e5 W5
  have F5_o0_size := Fld.same W5 F4_o0_size
  have A5_o0 := Exa.wr W5 A4_o0
  have F5_o0_number := Fld.other W5 F4_o0_number (Or.inr (slot_ne (Or.inr (hw _ (List.mem_of_getElem? (i := 15) rfl))) (Or.inr (hw _ (List.mem_of_getElem? (i := 21) rfl))) (by decide) (t := .long) (t' := .long) (by decide) (by decide)))
  have F5_o0_submit := Fld.other W5 F4_o0_submit (Or.inr (slot_ne (Or.inr (hw _ (List.mem_of_getElem? (i := 17) rfl))) (Or.inr (hw _ (List.mem_of_getElem? (i := 21) rfl))) (by decide) (t := .long) (t' := .long) (by decide) (by decide)))
  have F5_o0_runTime := Fld.other W5 F4_o0_runTime (Or.inr (slot_ne (Or.inr (hw _ (List.mem_of_getElem? (i := 19) rfl))) (Or.inr (hw _ (List.mem_of_getElem? (i := 21) rfl))) (by decide) (t := .long) (t' := .long) (by decide) (by decide)))
  have F5_o0_estimate := Fld.other W5 F4_o0_estimate (Or.inr (slot_ne (Or.inr (hw _ (List.mem_of_getElem? (i := 23) rfl))) (Or.inr (hw _ (List.mem_of_getElem? (i := 21) rfl))) (by decide) (t := .long) (t' := .long) (by decide) (by decide)))
  have F5_o0_user := Fld.other W5 F4_o0_user (Or.inr (slot_ne (Or.inr (hw _ (List.mem_of_getElem? (i := 25) rfl))) (Or.inr (hw _ (List.mem_of_getElem? (i := 21) rfl))) (by decide) (t := .int) (t' := .long) (by decide) (by decide)))
  have N5 := Fr.snoc X5 N4 g_o0
  have z5 : n0 ≤ h5.size := Nat.le_trans z4 (Keep.of_wr W5).1
  have K5 := Keep.wr K4 W5 (Or.inl (by simp))
  refine o_aload_n X5 hx (hb hby d1_26) rfl rfl (pc' := 27) rfl ?_
  refine o_lload X5 hx (hb hby d1_27) rfl (pc' := 29) rfl ?_
  refine o_putF X5 hx hZ hown e5 (hw _ (List.mem_of_getElem? (i := 22) rfl)) Via.refl F5_o0_estimate A5_o0 (Or.inr ⟨(hw _ (List.mem_of_getElem? (i := 23) rfl)), rfl, hnm⟩) (hw _ (List.mem_of_getElem? (i := 1) rfl)) (ty := .long) (by decide) rfl rfl (hb hby d1_29) (pc' := 32) rfl ?_
  intro T6 h6 X6 e6 W6
  have F6_o0_estimate := Fld.same W6 F5_o0_estimate
  have A6_o0 := Exa.wr W6 A5_o0
  have F6_o0_number := Fld.other W6 F5_o0_number (Or.inr (slot_ne (Or.inr (hw _ (List.mem_of_getElem? (i := 15) rfl))) (Or.inr (hw _ (List.mem_of_getElem? (i := 23) rfl))) (by decide) (t := .long) (t' := .long) (by decide) (by decide)))
  have F6_o0_submit := Fld.other W6 F5_o0_submit (Or.inr (slot_ne (Or.inr (hw _ (List.mem_of_getElem? (i := 17) rfl))) (Or.inr (hw _ (List.mem_of_getElem? (i := 23) rfl))) (by decide) (t := .long) (t' := .long) (by decide) (by decide)))
  have F6_o0_runTime := Fld.other W6 F5_o0_runTime (Or.inr (slot_ne (Or.inr (hw _ (List.mem_of_getElem? (i := 19) rfl))) (Or.inr (hw _ (List.mem_of_getElem? (i := 23) rfl))) (by decide) (t := .long) (t' := .long) (by decide) (by decide)))
  have F6_o0_size := Fld.other W6 F5_o0_size (Or.inr (slot_ne (Or.inr (hw _ (List.mem_of_getElem? (i := 21) rfl))) (Or.inr (hw _ (List.mem_of_getElem? (i := 23) rfl))) (by decide) (t := .long) (t' := .long) (by decide) (by decide)))
  have F6_o0_user := Fld.other W6 F5_o0_user (Or.inr (slot_ne (Or.inr (hw _ (List.mem_of_getElem? (i := 25) rfl))) (Or.inr (hw _ (List.mem_of_getElem? (i := 23) rfl))) (by decide) (t := .int) (t' := .long) (by decide) (by decide)))
  have N6 := Fr.snoc X6 N5 g_o0
  have z6 : n0 ≤ h6.size := Nat.le_trans z5 (Keep.of_wr W6).1
  have K6 := Keep.wr K5 W6 (Or.inl (by simp))
  refine o_aload_n X6 hx (hb hby d1_32) rfl rfl (pc' := 33) rfl ?_
  refine o_iload X6 hx (hb hby d1_33) rfl (pc' := 35) rfl ?_
  refine o_putF X6 hx hZ hown e6 (hw _ (List.mem_of_getElem? (i := 24) rfl)) Via.refl F6_o0_user A6_o0 (Or.inr ⟨(hw _ (List.mem_of_getElem? (i := 25) rfl)), rfl, hnm⟩) (hw _ (List.mem_of_getElem? (i := 1) rfl)) (ty := .int) (by decide) rfl rfl (hb hby d1_35) (pc' := 38) rfl ?_
  intro T7 h7 X7 e7 W7
  have F7_o0_user := Fld.same W7 F6_o0_user
  have A7_o0 := Exa.wr W7 A6_o0
  have F7_o0_number := Fld.other W7 F6_o0_number (Or.inr (slot_ne (Or.inr (hw _ (List.mem_of_getElem? (i := 15) rfl))) (Or.inr (hw _ (List.mem_of_getElem? (i := 25) rfl))) (by decide) (t := .long) (t' := .int) (by decide) (by decide)))
  have F7_o0_submit := Fld.other W7 F6_o0_submit (Or.inr (slot_ne (Or.inr (hw _ (List.mem_of_getElem? (i := 17) rfl))) (Or.inr (hw _ (List.mem_of_getElem? (i := 25) rfl))) (by decide) (t := .long) (t' := .int) (by decide) (by decide)))
  have F7_o0_runTime := Fld.other W7 F6_o0_runTime (Or.inr (slot_ne (Or.inr (hw _ (List.mem_of_getElem? (i := 19) rfl))) (Or.inr (hw _ (List.mem_of_getElem? (i := 25) rfl))) (by decide) (t := .long) (t' := .int) (by decide) (by decide)))
  have F7_o0_size := Fld.other W7 F6_o0_size (Or.inr (slot_ne (Or.inr (hw _ (List.mem_of_getElem? (i := 21) rfl))) (Or.inr (hw _ (List.mem_of_getElem? (i := 25) rfl))) (by decide) (t := .long) (t' := .int) (by decide) (by decide)))
  have F7_o0_estimate := Fld.other W7 F6_o0_estimate (Or.inr (slot_ne (Or.inr (hw _ (List.mem_of_getElem? (i := 23) rfl))) (Or.inr (hw _ (List.mem_of_getElem? (i := 25) rfl))) (by decide) (t := .long) (t' := .int) (by decide) (by decide)))
  have N7 := Fr.snoc X7 N6 g_o0
  have z7 : n0 ≤ h7.size := Nat.le_trans z6 (Keep.of_wr W7).1
  have K7 := Keep.wr K6 W7 (Or.inl (by simp))
  subst hr
  exact o_ret X7 hx hlk hret (hb hby d1_38) (by rw [e7]; exact ⟨rfl, N7, K7, A7_o0, F7_o0_number, F7_o0_submit, F7_o0_runTime, F7_o0_size, F7_o0_estimate, F7_o0_user⟩) (by decide) (by decide)
theorem pn_1 : plainName "com/example/gangway/gangway/model/Job" = true := by first | (simp [plainName, overriddenIn]; done) | decide +kernel
theorem ef_1 (m : MethodId) (o0 : Addr) (x1 : Int64) (x3 : Int64) (x5 : Int64) (x7 : Int64) (x9 : Int64) (x11 : Int32) : entryFrame m #[(.ref o0), (.long x1), (.long x3), (.long x5), (.long x7), (.long x9), (.int x11)] 12 = (mkF m 0 #[.val (.ref o0), .val (.long x1), .second, .val (.long x3), .second, .val (.long x5), .second, .val (.long x7), .second, .val (.long x9), .second, .val (.int x11)] []) := by first | (simp [entryFrame, mkF, argsToLocals, Value.category]; done) | rfl
def Qd1 (Z : State) (h0 : Heap) (n0 : Nat) (o0 : Addr) (x1 : Int64) (x3 : Int64) (x5 : Int64) (x7 : Int64) (x9 : Int64) (x11 : Int32) (u_number : Value) (u_submit : Value) (u_runTime : Value) (u_size : Value) (u_estimate : Value) (u_user : Value) (r : Int64 × Int64 × Int64 × Int64 × Int64 × Int32) : Option Value → Heap → List Loc → Prop := (fun v h L => v = none ∧ Fr n0 L ∧ Keep h0 h [o0] ∧ Exa Z h o0 "com/example/gangway/gangway/model/Job" ∧ Fld Z h o0 "com/example/gangway/gangway/model/Job" "number" "J" (.long r.1) ∧ Fld Z h o0 "com/example/gangway/gangway/model/Job" "submit" "J" (.long r.2.1) ∧ Fld Z h o0 "com/example/gangway/gangway/model/Job" "runTime" "J" (.long r.2.2.1) ∧ Fld Z h o0 "com/example/gangway/gangway/model/Job" "size" "J" (.long r.2.2.2.1) ∧ Fld Z h o0 "com/example/gangway/gangway/model/Job" "estimate" "J" (.long r.2.2.2.2.1) ∧ Fld Z h o0 "com/example/gangway/gangway/model/Job" "user" "I" (.int r.2.2.2.2.2))
set_option maxRecDepth 65536 in
set_option maxHeartbeats 40000000 in
theorem rm1 (l : Launch) (Z : State) (a0 : Array Value) (hw : ∀ d ∈ tables_1, d.before a0 Z = true) (ws : List Jvm.Cond) (o0 : Addr) (x1 : Int64) (x3 : Int64) (x5 : Int64) (x7 : Int64) (x9 : Int64) (x11 : Int32) (u_number : Value) (u_submit : Value) (u_runTime : Value) (u_size : Value) (u_estimate : Value) (u_user : Value) (h0 : Heap) (n0 : Nat) (Z0 : n0 ≤ h0.size) (E_o0 : Exa Z h0 o0 "com/example/gangway/gangway/model/Job") (F_o0_number : Fld Z h0 o0 "com/example/gangway/gangway/model/Job" "number" "J" u_number) (F_o0_submit : Fld Z h0 o0 "com/example/gangway/gangway/model/Job" "submit" "J" u_submit) (F_o0_runTime : Fld Z h0 o0 "com/example/gangway/gangway/model/Job" "runTime" "J" u_runTime) (F_o0_size : Fld Z h0 o0 "com/example/gangway/gangway/model/Job" "size" "J" u_size) (F_o0_estimate : Fld Z h0 o0 "com/example/gangway/gangway/model/Job" "estimate" "J" u_estimate) (F_o0_user : Fld Z h0 o0 "com/example/gangway/gangway/model/Job" "user" "I" u_user) (g_o0 : n0 ≤ o0) (r : Int64 × Int64 × Int64 × Int64 × Int64 × Int32) (hr : f1_0 x1 x3 x5 x7 x9 x11 = r) :
    MetFree l (⟨"com/example/gangway/gangway/model/Job", "<init>", "(JJJJJI)V"⟩ : MethodName) (head1 (Jvm.Cond.code (⟨"com/example/gangway/gangway/model/Job", "<init>", "(JJJJJI)V"⟩ : MethodName) prog_73_method_2_code 12 none :: ws) ({ frames := 2, cells := 0, slots := 0, locals := 24 } : Room)) (fun a U => a = #[(.ref o0), (.long x1), (.long x3), (.long x5), (.long x7), (.long x9), (.int x11)] ∧ Z.Warmed39 U.vm ∧ U.heap = h0) (fun _ _ _ _ _ => True) (fun _ U o U' => ∃ v L, o = .returned v ∧ (Qd1 Z h0 n0 o0 x1 x3 x5 x7 x9 x11 u_number u_submit u_runTime u_size u_estimate u_user r) v U'.heap L ∧ FrameEnd U o U' L ({ frames := 2, cells := 0, slots := 0, locals := 24 } : Room).cells ({ frames := 2, cells := 0, slots := 0, locals := 24 } : Room).slots) := by
  refine MetFree.of_bodySF (plainFor_of_name pn_1) hisR ?_
  intro p e s m args below meth c s₁ Bd hml0 hP hK
  obtain ⟨rfl, hZ, hh⟩ := hP
  have e0 : s₁.heap = h0 := by rw [← hh, Bd.state]; rfl
  exact OG.cast (ef_1 m o0 x1 x3 x5 x7 x9 x11) (b1_0 Bd.exec hZ hw Bd.bytes hml0 (findClass_of_methodNamed Bd.named) (name_of_methodNamed Bd.named Bd.method).1 Bd.returns Bd.notSynchronized o0 u_number u_submit u_runTime u_size u_estimate u_user x1 x3 x5 x7 x9 x11 r (Stand.of_body Bd) e0 (Fr.nil n0) Z0 (Keep.refl h0 [o0]) E_o0 F_o0_number F_o0_submit F_o0_runTime F_o0_size F_o0_estimate F_o0_user g_o0 hr)
theorem d6_0 : decode jdk_43_method_13_code 0 = .ok (.aload_n 0, 1) := by decide +kernel
theorem d6_1 : decode jdk_43_method_13_code 1 = .ok (.arraylength, 1) := by decide +kernel
theorem d6_2 : decode jdk_43_method_13_code 2 = .ok (.aload_n 1, 1) := by decide +kernel
theorem d6_3 : decode jdk_43_method_13_code 3 = .ok (.arraylength, 1) := by decide +kernel
theorem d6_4 : decode jdk_43_method_13_code 4 = .ok (.if_icmp .ne 30, 3) := by decide +kernel
theorem d6_7 : decode jdk_43_method_13_code 7 = .ok (.iconst 0, 1) := by decide +kernel
theorem d6_8 : decode jdk_43_method_13_code 8 = .ok (.istore_n 2, 1) := by decide +kernel
theorem d6_9 : decode jdk_43_method_13_code 9 = .ok (.iload_n 2, 1) := by decide +kernel
theorem d6_10 : decode jdk_43_method_13_code 10 = .ok (.aload_n 0, 1) := by decide +kernel
theorem d6_11 : decode jdk_43_method_13_code 11 = .ok (.arraylength, 1) := by decide +kernel
theorem d6_12 : decode jdk_43_method_13_code 12 = .ok (.if_icmp .ge 20, 3) := by decide +kernel
theorem d6_15 : decode jdk_43_method_13_code 15 = .ok (.aload_n 0, 1) := by decide +kernel
theorem d6_16 : decode jdk_43_method_13_code 16 = .ok (.iload_n 2, 1) := by decide +kernel
theorem d6_17 : decode jdk_43_method_13_code 17 = .ok (.baload, 1) := by decide +kernel
theorem d6_18 : decode jdk_43_method_13_code 18 = .ok (.aload_n 1, 1) := by decide +kernel
theorem d6_19 : decode jdk_43_method_13_code 19 = .ok (.iload_n 2, 1) := by decide +kernel
theorem d6_20 : decode jdk_43_method_13_code 20 = .ok (.baload, 1) := by decide +kernel
theorem d6_21 : decode jdk_43_method_13_code 21 = .ok (.if_icmp .eq 5, 3) := by decide +kernel
theorem d6_26 : decode jdk_43_method_13_code 26 = .ok (.iinc 2 1, 3) := by decide +kernel
theorem d6_29 : decode jdk_43_method_13_code 29 = .ok (.goto (-20), 3) := by decide +kernel
theorem d6_24 : decode jdk_43_method_13_code 24 = .ok (.iconst 0, 1) := by decide +kernel
theorem d6_25 : decode jdk_43_method_13_code 25 = .ok (.ireturn, 1) := by decide +kernel
theorem d6_32 : decode jdk_43_method_13_code 32 = .ok (.iconst 1, 1) := by decide +kernel
theorem d6_33 : decode jdk_43_method_13_code 33 = .ok (.ireturn, 1) := by decide +kernel
theorem d6_34 : decode jdk_43_method_13_code 34 = .ok (.iconst 0, 1) := by decide +kernel
theorem d6_35 : decode jdk_43_method_13_code 35 = .ok (.ireturn, 1) := by decide +kernel
def f6_9 : Nat → (Nat → Int32) → Nat → (Nat → Int32) → Nat → Int32 → Option (Int32)
  | 0, _, _, _, _, _ => none
  | k + 1, c_o0, n_o0, c_o1, n_o1, x2 => (if x2 < (Nat.toInt32 n_o0) then (if (¬ (x2 < 0) ∧ Int32.toNatClampNeg x2 < n_o0) then (if (¬ (x2 < 0) ∧ Int32.toNatClampNeg x2 < n_o1) then (if (c_o0 (Int32.toNatClampNeg x2)) = (c_o1 (Int32.toNatClampNeg x2)) then (f6_9 k c_o0 n_o0 c_o1 n_o1 (x2 + (1 : Int32))) else (some (0 : Int32))) else none) else none) else (some (1 : Int32)))
set_option maxRecDepth 65536 in
set_option maxHeartbeats 40000000 in
theorem b6_9 {p : Program} {l : Launch} {e : Env} {s : State} {m : MethodId} {args : Array Value} {below : List Frame} {meth : Method} {c : Code} {Z : State} {a0 : Array Value} {h0 : Heap} {n0 : Nat} (hx : p.tables.exec = Jvm.exec) (hZ : Z.Warmed39 s.vm) (hw : ∀ d ∈ tables_1, d.before a0 Z = true) (hby : c.code = jdk_43_method_13_code) (hml : c.maxLocals = 3) (hown : s.vm.findClass "java/lang/StringLatin1" = some m.cls) (hnm : meth.name = "equals") (hret : meth.sig.returnType = some .boolean) (hlk : meth.locks = false) (o0 : Addr) (o1 : Addr) : ∀ (k : Nat) {T : State} {locs : List Loc} (c_o0 : Nat → Int32) (n_o0 : Nat) (c_o1 : Nat → Int32) (n_o1 : Nat) (x2 : Int32) (r : Int32) (X : Stand p l e ({ frames := 0, cells := 0, slots := 0, locals := 0 } : Room) s m args below meth c T locs 0 0) (eT : T.heap = h0) (N : Fr n0 locs) (Z0 : n0 ≤ h0.size) (A_o0 : OAr Z h0 o0 .byte n_o0 (ci c_o0)) (A_o1 : OAr Z h0 o1 .byte n_o1 (ci c_o1)) (hr : f6_9 k c_o0 n_o0 c_o1 n_o1 x2 = some r),
    OG p e below s (fun v h L => v = (some (.int r)) ∧ Fr n0 L ∧ h = h0) 0 0 T (mkF m 9 #[.val (.ref o0), .val (.ref o1), .val (.int x2)] []) := by
  intro k
  induction k with
  | zero => intros; rename_i hr; exact absurd hr (by intro q; cases q)
  | succ k ih =>
    intro T locs c_o0 n_o0 c_o1 n_o1 x2 r X eT N Z0 A_o0 A_o1 hr
    have hr : (if x2 < (Nat.toInt32 n_o0) then (if (¬ (x2 < 0) ∧ Int32.toNatClampNeg x2 < n_o0) then (if (¬ (x2 < 0) ∧ Int32.toNatClampNeg x2 < n_o1) then (if (c_o0 (Int32.toNatClampNeg x2)) = (c_o1 (Int32.toNatClampNeg x2)) then (f6_9 k c_o0 n_o0 c_o1 n_o1 (x2 + (1 : Int32))) else (some (0 : Int32))) else none) else none) else (some (1 : Int32))) = some r := hr
    refine o_iload_n X hx (hb hby d6_9) rfl (pc' := 10) rfl ?_
    refine o_aload_n X hx (hb hby d6_10) rfl rfl (pc' := 11) rfl ?_
    refine o_alen X hx hZ eT A_o0 (hb hby d6_11) (Nat.toInt32 n_o0) rfl (pc' := 12) rfl ?_
    by_cases hc2 : x2 < (Nat.toInt32 n_o0)
    · rw [if_pos hc2] at hr
      refine o_icmpNo X hx (hb hby d6_12) (c_tlt hc2).2 (pc' := 15) rfl ?_
      refine o_aload_n X hx (hb hby d6_15) rfl rfl (pc' := 16) rfl ?_
      refine o_iload_n X hx (hb hby d6_16) rfl (pc' := 17) rfl ?_
      by_cases hg3 : (¬ (x2 < 0) ∧ Int32.toNatClampNeg x2 < n_o0)
      case neg => rw [if_neg hg3] at hr; cases hr
      rw [if_pos hg3] at hr
      refine o_baload X hx hZ eT A_o0 (hb hby d6_17) (And.left hg3) (And.right hg3) (c_o0 (Int32.toNatClampNeg x2)) rfl (pc' := 18) rfl ?_
      refine o_aload_n X hx (hb hby d6_18) rfl rfl (pc' := 19) rfl ?_
      refine o_iload_n X hx (hb hby d6_19) rfl (pc' := 20) rfl ?_
      by_cases hg4 : (¬ (x2 < 0) ∧ Int32.toNatClampNeg x2 < n_o1)
      case neg => rw [if_neg hg4] at hr; cases hr
      rw [if_pos hg4] at hr
      refine o_baload X hx hZ eT A_o1 (hb hby d6_20) (And.left hg4) (And.right hg4) (c_o1 (Int32.toNatClampNeg x2)) rfl (pc' := 21) rfl ?_
      by_cases hc5 : (c_o0 (Int32.toNatClampNeg x2)) = (c_o1 (Int32.toNatClampNeg x2))
      · rw [if_pos hc5] at hr
        refine o_icmpYes X hx (hb hby d6_21) (c_teq hc5).1 (pc' := 26) (by decide) (by decide) ?_
        refine o_iinc X hx (hb hby d6_26) (1 : Int32) rfl rfl #[.val (.ref o0), .val (.ref o1), .val (.int (x2 + (1 : Int32)))] rfl (pc' := 29) rfl ?_
        refine o_goto X hx (hb hby d6_29) (pc' := 9) (by decide) (by decide) ?_
        exact ih c_o0 n_o0 c_o1 n_o1 (x2 + (1 : Int32)) r X eT N Z0 A_o0 A_o1 hr
      · rw [if_neg hc5] at hr
        refine o_icmpNo X hx (hb hby d6_21) (c_feq hc5).1 (pc' := 24) rfl ?_
        refine o_iconst X hx (hb hby d6_24) (0 : Int32) rfl (pc' := 25) rfl ?_
        obtain rfl : (0 : Int32) = r := Option.some.inj hr
        exact o_retN X hx hlk (t := .boolean) (by simp) hret (hb hby d6_25) rfl ⟨rfl, N, eT⟩ (by decide) (by decide)
    · rw [if_neg hc2] at hr
      refine o_icmpYes X hx (hb hby d6_12) (c_flt hc2).2 (pc' := 32) (by decide) (by decide) ?_
      refine o_iconst X hx (hb hby d6_32) (1 : Int32) rfl (pc' := 33) rfl ?_
      obtain rfl : (1 : Int32) = r := Option.some.inj hr
      exact o_retN X hx hlk (t := .boolean) (by simp) hret (hb hby d6_33) rfl ⟨rfl, N, eT⟩ (by decide) (by decide)
def f6_0 (c_o0 : (Nat → Int32)) (n_o0 : Nat) (c_o1 : (Nat → Int32)) (n_o1 : Nat) : Option (Int32) := (if (Nat.toInt32 n_o0) = (Nat.toInt32 n_o1) then (f6_9 10 c_o0 n_o0 c_o1 n_o1 (0 : Int32)) else (some (0 : Int32)))
set_option maxRecDepth 65536 in
set_option maxHeartbeats 40000000 in
theorem b6_0 {p : Program} {l : Launch} {e : Env} {s : State} {m : MethodId} {args : Array Value} {below : List Frame} {meth : Method} {c : Code} {Z : State} {a0 : Array Value} {h0 : Heap} {n0 : Nat} (hx : p.tables.exec = Jvm.exec) (hZ : Z.Warmed39 s.vm) (hw : ∀ d ∈ tables_1, d.before a0 Z = true) (hby : c.code = jdk_43_method_13_code) (hml : c.maxLocals = 3) (hown : s.vm.findClass "java/lang/StringLatin1" = some m.cls) (hnm : meth.name = "equals") (hret : meth.sig.returnType = some .boolean) (hlk : meth.locks = false) (o0 : Addr) (o1 : Addr) {T : State} {locs : List Loc} (c_o0 : Nat → Int32) (n_o0 : Nat) (c_o1 : Nat → Int32) (n_o1 : Nat) (r : Int32) (X : Stand p l e ({ frames := 0, cells := 0, slots := 0, locals := 0 } : Room) s m args below meth c T locs 0 0) (eT : T.heap = h0) (N : Fr n0 locs) (Z0 : n0 ≤ h0.size) (A_o0 : OAr Z h0 o0 .byte n_o0 (ci c_o0)) (A_o1 : OAr Z h0 o1 .byte n_o1 (ci c_o1)) (hr : f6_0 c_o0 n_o0 c_o1 n_o1 = some r) :
    OG p e below s (fun v h L => v = (some (.int r)) ∧ Fr n0 L ∧ h = h0) 0 0 T (mkF m 0 #[.val (.ref o0), .val (.ref o1), .unset] []) := by
  have hr : (if (Nat.toInt32 n_o0) = (Nat.toInt32 n_o1) then (f6_9 10 c_o0 n_o0 c_o1 n_o1 (0 : Int32)) else (some (0 : Int32))) = some r := hr
  refine o_aload_n X hx (hb hby d6_0) rfl rfl (pc' := 1) rfl ?_
  refine o_alen X hx hZ eT A_o0 (hb hby d6_1) (Nat.toInt32 n_o0) rfl (pc' := 2) rfl ?_
  refine o_aload_n X hx (hb hby d6_2) rfl rfl (pc' := 3) rfl ?_
  refine o_alen X hx hZ eT A_o1 (hb hby d6_3) (Nat.toInt32 n_o1) rfl (pc' := 4) rfl ?_
  by_cases hc1 : (Nat.toInt32 n_o0) = (Nat.toInt32 n_o1)
  · rw [if_pos hc1] at hr
    refine o_icmpNo X hx (hb hby d6_4) (c_teq hc1).2 (pc' := 7) rfl ?_
    refine o_iconst X hx (hb hby d6_7) (0 : Int32) rfl (pc' := 8) rfl ?_
    refine o_istore_n X hx (hb hby d6_8) #[.val (.ref o0), .val (.ref o1), .val (.int (0 : Int32))] rfl (pc' := 9) rfl ?_
    exact b6_9 hx hZ hw hby hml hown hnm hret hlk o0 o1 10 c_o0 n_o0 c_o1 n_o1 (0 : Int32) r X eT N Z0 A_o0 A_o1 hr
  · rw [if_neg hc1] at hr
    refine o_icmpYes X hx (hb hby d6_4) (c_feq hc1).2 (pc' := 34) (by decide) (by decide) ?_
    refine o_iconst X hx (hb hby d6_34) (0 : Int32) rfl (pc' := 35) rfl ?_
    obtain rfl : (0 : Int32) = r := Option.some.inj hr
    exact o_retN X hx hlk (t := .boolean) (by simp) hret (hb hby d6_35) rfl ⟨rfl, N, eT⟩ (by decide) (by decide)
theorem pn_6 : plainName "java/lang/StringLatin1" = true := by first | (simp [plainName, overriddenIn]; done) | decide +kernel
theorem ef_6 (m : MethodId) (o0 : Addr) (o1 : Addr) : entryFrame m #[(.ref o0), (.ref o1)] 3 = (mkF m 0 #[.val (.ref o0), .val (.ref o1), .unset] []) := by first | (simp [entryFrame, mkF, argsToLocals, Value.category]; done) | rfl
def Qd6 (Z : State) (h0 : Heap) (n0 : Nat) (o0 : Addr) (o1 : Addr) (c_o0 : Nat → Int32) (n_o0 : Nat) (c_o1 : Nat → Int32) (n_o1 : Nat) (r : Int32) : Option Value → Heap → List Loc → Prop := (fun v h L => v = (some (.int r)) ∧ Fr n0 L ∧ h = h0)
set_option maxRecDepth 65536 in
set_option maxHeartbeats 40000000 in
theorem rm6 (l : Launch) (Z : State) (a0 : Array Value) (hw : ∀ d ∈ tables_1, d.before a0 Z = true) (ws : List Jvm.Cond) (o0 : Addr) (o1 : Addr) (c_o0 : Nat → Int32) (n_o0 : Nat) (c_o1 : Nat → Int32) (n_o1 : Nat) (h0 : Heap) (n0 : Nat) (Z0 : n0 ≤ h0.size) (A_o0 : OAr Z h0 o0 .byte n_o0 (ci c_o0)) (A_o1 : OAr Z h0 o1 .byte n_o1 (ci c_o1)) (r : Int32) (hr : f6_0 c_o0 n_o0 c_o1 n_o1 = some r) :
    MetFree l (⟨"java/lang/StringLatin1", "equals", "([B[B)Z"⟩ : MethodName) (head1 (Jvm.Cond.code (⟨"java/lang/StringLatin1", "equals", "([B[B)Z"⟩ : MethodName) jdk_43_method_13_code 3 (some .boolean) :: ws) ({ frames := 0, cells := 0, slots := 0, locals := 0 } : Room)) (fun a U => a = #[(.ref o0), (.ref o1)] ∧ Z.Warmed39 U.vm ∧ U.heap = h0) (fun _ _ _ _ _ => True) (fun _ U o U' => ∃ v L, o = .returned v ∧ (Qd6 Z h0 n0 o0 o1 c_o0 n_o0 c_o1 n_o1 r) v U'.heap L ∧ FrameEnd U o U' L ({ frames := 0, cells := 0, slots := 0, locals := 0 } : Room).cells ({ frames := 0, cells := 0, slots := 0, locals := 0 } : Room).slots) := by
  refine MetFree.of_bodySF (plainFor_of_name pn_6) hisR ?_
  intro p e s m args below meth c s₁ Bd hml0 hP hK
  obtain ⟨rfl, hZ, hh⟩ := hP
  have e0 : s₁.heap = h0 := by rw [← hh, Bd.state]; rfl
  exact OG.cast (ef_6 m o0 o1) (b6_0 Bd.exec hZ hw Bd.bytes hml0 (findClass_of_methodNamed Bd.named) (name_of_methodNamed Bd.named Bd.method).1 Bd.returns Bd.notSynchronized o0 o1 c_o0 n_o0 c_o1 n_o1 r (Stand.of_body Bd) e0 (Fr.nil n0) Z0 A_o0 A_o1 hr)
theorem pd_1 : parseMethodDescriptor "([B[B)Z" = some ⟨[(.array .byte), (.array .byte)], some .boolean⟩ := by decide +kernel
theorem d5_0 : decode jdk_42_method_66_code 0 = .ok (.aload_n 0, 1) := by decide +kernel
theorem d5_1 : decode jdk_42_method_66_code 1 = .ok (.aload_n 1, 1) := by decide +kernel
theorem d5_2 : decode jdk_42_method_66_code 2 = .ok (.if_acmp .ne 5, 3) := by decide +kernel
theorem d5_5 : decode jdk_42_method_66_code 5 = .ok (.iconst 1, 1) := by decide +kernel
theorem d5_6 : decode jdk_42_method_66_code 6 = .ok (.ireturn, 1) := by decide +kernel
theorem d5_7 : decode jdk_42_method_66_code 7 = .ok (.aload_n 1, 1) := by decide +kernel
theorem d5_8 : decode jdk_42_method_66_code 8 = .ok (.instanceof 10, 3) := by decide +kernel
theorem d5_11 : decode jdk_42_method_66_code 11 = .ok (.ifCond .eq 43, 3) := by decide +kernel
theorem d5_14 : decode jdk_42_method_66_code 14 = .ok (.aload_n 1, 1) := by decide +kernel
theorem d5_15 : decode jdk_42_method_66_code 15 = .ok (.checkcast 10, 3) := by decide +kernel
theorem d5_18 : decode jdk_42_method_66_code 18 = .ok (.astore_n 2, 1) := by decide +kernel
theorem d5_19 : decode jdk_42_method_66_code 19 = .ok (.getstatic 38, 3) := by decide +kernel
theorem d5_22 : decode jdk_42_method_66_code 22 = .ok (.ifCond .eq 14, 3) := by decide +kernel
theorem d5_25 : decode jdk_42_method_66_code 25 = .ok (.aload_n 0, 1) := by decide +kernel
theorem d5_26 : decode jdk_42_method_66_code 26 = .ok (.getfield 15, 3) := by decide +kernel
theorem d5_29 : decode jdk_42_method_66_code 29 = .ok (.aload_n 2, 1) := by decide +kernel
theorem d5_30 : decode jdk_42_method_66_code 30 = .ok (.getfield 15, 3) := by decide +kernel
theorem d5_33 : decode jdk_42_method_66_code 33 = .ok (.if_icmp .ne 21, 3) := by decide +kernel
theorem d5_36 : decode jdk_42_method_66_code 36 = .ok (.aload_n 0, 1) := by decide +kernel
theorem d5_37 : decode jdk_42_method_66_code 37 = .ok (.getfield 9, 3) := by decide +kernel
theorem d5_40 : decode jdk_42_method_66_code 40 = .ok (.aload_n 2, 1) := by decide +kernel
theorem d5_41 : decode jdk_42_method_66_code 41 = .ok (.getfield 9, 3) := by decide +kernel
theorem d5_44 : decode jdk_42_method_66_code 44 = .ok (.invokestatic 541, 3) := by decide +kernel
theorem d5_47 : decode jdk_42_method_66_code 47 = .ok (.ifCond .eq 7, 3) := by decide +kernel
theorem d5_50 : decode jdk_42_method_66_code 50 = .ok (.iconst 1, 1) := by decide +kernel
theorem d5_51 : decode jdk_42_method_66_code 51 = .ok (.goto 4, 3) := by decide +kernel
theorem d5_54 : decode jdk_42_method_66_code 54 = .ok (.iconst 0, 1) := by decide +kernel
theorem d5_55 : decode jdk_42_method_66_code 55 = .ok (.ireturn, 1) := by decide +kernel
set_option maxRecDepth 65536 in
set_option maxHeartbeats 40000000 in
theorem bEq {p : Program} {l : Launch} {e : Env} {s : State} {m : MethodId} {args : Array Value} {below : List Frame} {meth : Method} {c : Code} {Z : State} {a0 : Array Value} (hx : p.tables.exec = Jvm.exec) (hZ : Z.Warmed39 s.vm) (hw : ∀ d ∈ tables_1, d.before a0 Z = true) (hby : c.code = jdk_42_method_66_code) (hml : c.maxLocals = 3) (hown : s.vm.findClass "java/lang/String" = some m.cls) (hret : meth.sig.returnType = some .boolean) (hlk : meth.locks = false) {T : State} {locs : List Loc} (o0 o1 t0 t1 : Addr) (c0 c1 : Nat → Int32) (m0 m1 : Nat) (z : Int32) (h0 : Heap) (n0 : Nat) (Z0 : n0 ≤ h0.size) (E0 : Exa Z h0 o0 "java/lang/String") (C0 : Fld Z h0 o0 "java/lang/String" "coder" "B" (.int 0)) (V0 : Fld Z h0 o0 "java/lang/String" "value" "[B" (.ref t0)) (A0 : OAr Z h0 t0 .byte m0 (ci c0)) (E1 : Exa Z h0 o1 "java/lang/String") (C1 : Fld Z h0 o1 "java/lang/String" "coder" "B" (.int 0)) (V1 : Fld Z h0 o1 "java/lang/String" "value" "[B" (.ref t1)) (A1 : OAr Z h0 t1 .byte m1 (ci c1)) (S : Sta Z h0 "java/lang/String" "COMPACT_STRINGS" "Z" (.int z)) (hz : ¬ z = 0) (r : Int32) (h01 : r = 0 ∨ r = 1) (hr : o0 = o1 → r = 1) (hq : f6_0 c0 m0 c1 m1 = some r) (X : Stand p l e ({ frames := 1, cells := 0, slots := 0, locals := 14 } : Room) s m args below meth c T locs 0 0) (eT : T.heap = h0) (N : Fr n0 locs) :
    OG p e below s (fun v h L => v = (some (.int r)) ∧ Fr n0 L ∧ h = h0) 0 0 T (mkF m 0 #[.val (.ref o0), .val (.ref o1), .unset] []) := by
  by_cases hxy : o0 = o1
  · obtain rfl := hr hxy
    refine o_aload_n X hx (hb hby d5_0) rfl rfl (pc' := 1) rfl ?_
    refine o_aload_n X hx (hb hby d5_1) rfl rfl (pc' := 2) rfl ?_
    refine o_acmpNo X hx (hb hby d5_2) (by simp [if_acmp.holds, hxy]) (pc' := 5) rfl ?_
    refine o_iconst X hx (hb hby d5_5) (1 : Int32) rfl (pc' := 6) rfl ?_
    exact o_retN X hx hlk (t := .boolean) (by simp) hret (hb hby d5_6) rfl ⟨rfl, N, eT⟩ (by decide) (by decide)
  refine o_aload_n X hx (hb hby d5_0) rfl rfl (pc' := 1) rfl ?_
  refine o_aload_n X hx (hb hby d5_1) rfl rfl (pc' := 2) rfl ?_
  refine o_acmpYes X hx (hb hby d5_2) (by simp [if_acmp.holds, hxy]) (pc' := 7) (by decide) (by decide) ?_
  refine o_aload_n X hx (hb hby d5_7) rfl rfl (pc' := 8) rfl ?_
  refine o_instY X hx hZ hown eT (hw _ (List.mem_of_getElem? (i := 46) rfl)) (Ins.self E1) (hb hby d5_8) (pc' := 11) rfl ?_
  intro T1 X1 e1
  refine o_ifNo X1 hx (hb hby d5_11) (z_feq (by decide)).1 (pc' := 14) rfl ?_
  refine o_aload_n X1 hx (hb hby d5_14) rfl rfl (pc' := 15) rfl ?_
  refine o_castY X1 hx hZ hown e1 (hw _ (List.mem_of_getElem? (i := 46) rfl)) (Ins.self E1) (hb hby d5_15) (pc' := 18) rfl ?_
  intro T2 X2 e2
  refine o_astore_n X2 hx (hb hby d5_18) rfl #[.val (.ref o0), .val (.ref o1), .val (.ref o1)] rfl (pc' := 19) rfl ?_
  refine o_getS X2 hx hZ hown e2 (hw _ (List.mem_of_getElem? (i := 48) rfl)) Via.refl S (hb hby d5_19) (pc' := 22) rfl ?_
  intro T3 X3 e3
  refine o_ifNo X3 hx (hb hby d5_22) (z_feq hz).1 (pc' := 25) rfl ?_
  refine o_aload_n X3 hx (hb hby d5_25) rfl rfl (pc' := 26) rfl ?_
  refine o_getF X3 hx hZ hown e3 (hw _ (List.mem_of_getElem? (i := 49) rfl)) Via.refl C0 (hb hby d5_26) (pc' := 29) rfl ?_
  intro T4 X4 e4
  refine o_aload_n X4 hx (hb hby d5_29) rfl rfl (pc' := 30) rfl ?_
  refine o_getF X4 hx hZ hown e4 (hw _ (List.mem_of_getElem? (i := 49) rfl)) Via.refl C1 (hb hby d5_30) (pc' := 33) rfl ?_
  intro T5 X5 e5
  refine o_icmpNo X5 hx (hb hby d5_33) (c_teq rfl).2 (pc' := 36) rfl ?_
  refine o_aload_n X5 hx (hb hby d5_36) rfl rfl (pc' := 37) rfl ?_
  refine o_getF X5 hx hZ hown e5 (hw _ (List.mem_of_getElem? (i := 50) rfl)) Via.refl V0 (hb hby d5_37) (pc' := 40) rfl ?_
  intro T6 X6 e6
  refine o_aload_n X6 hx (hb hby d5_40) rfl rfl (pc' := 41) rfl ?_
  refine o_getF X6 hx hZ hown e6 (hw _ (List.mem_of_getElem? (i := 50) rfl)) Via.refl V1 (hb hby d5_41) (pc' := 44) rfl ?_
  intro T7 X7 e7
  refine o_callS X7 hx hZ (argsL := [(.ref t0), (.ref t1)]) (rest := []) 0 hown e7 (hw _ (List.mem_of_getElem? (i := 51) rfl)) (hw _ (List.mem_of_getElem? (i := 52) rfl)) (hw _ (List.mem_of_getElem? (i := 53) rfl)) (hw _ (List.mem_of_getElem? (i := 54) rfl)) (by decide) (rm6 l Z a0 hw [] t0 t1 c0 m0 c1 m1 h0 n0 Z0 A0 A1 r hq) (by decide) (by decide) (by rw [hml]; rfl) (lenOf pd_1 rfl) rfl (Nat.le_refl _) (hb hby d5_44) (pc' := 47) rfl (by decide) (by decide) ?_
  rintro _ T8 L8 X8 ⟨rfl, N8, e8⟩
  replace X8 : Stand p l e ({ frames := 1, cells := 0, slots := 0, locals := 14 } : Room) s m args below meth c T8 (locs ++ L8) 0 0 := X8
  have M8 := Fr.app N N8
  dsimp only [Option.toList, List.cons_append, List.nil_append]
  rcases h01 with rfl | rfl
  · refine o_ifYes X8 hx (hb hby d5_47) (z_teq rfl).1 (pc' := 54) (by decide) (by decide) ?_
    refine o_iconst X8 hx (hb hby d5_54) (0 : Int32) rfl (pc' := 55) rfl ?_
    exact o_retN X8 hx hlk (t := .boolean) (by simp) hret (hb hby d5_55) rfl ⟨rfl, M8, e8⟩ (by decide) (by decide)
  · refine o_ifNo X8 hx (hb hby d5_47) (z_feq (by decide)).1 (pc' := 50) rfl ?_
    refine o_iconst X8 hx (hb hby d5_50) (1 : Int32) rfl (pc' := 51) rfl ?_
    refine o_goto X8 hx (hb hby d5_51) (pc' := 55) (by decide) (by decide) ?_
    exact o_retN X8 hx hlk (t := .boolean) (by simp) hret (hb hby d5_55) rfl ⟨rfl, M8, e8⟩ (by decide) (by decide)
theorem pn_5 : plainName "java/lang/String" = true := by first | (simp [plainName, overriddenIn]; done) | decide +kernel
theorem ef_5 (m : MethodId) (o0 o1 : Addr) : entryFrame m #[(.ref o0), (.ref o1)] 3 = (mkF m 0 #[.val (.ref o0), .val (.ref o1), .unset] []) := by first | (simp [entryFrame, mkF, argsToLocals, Value.category]; done) | rfl
def QdEq (h0 : Heap) (n0 : Nat) (r : Int32) : Option Value → Heap → List Loc → Prop := (fun v h L => v = (some (.int r)) ∧ Fr n0 L ∧ h = h0)
set_option maxRecDepth 65536 in
set_option maxHeartbeats 40000000 in
theorem rmEq (l : Launch) (Z : State) (a0 : Array Value) (hw : ∀ d ∈ tables_1, d.before a0 Z = true) (ws : List Jvm.Cond) (o0 o1 t0 t1 : Addr) (c0 c1 : Nat → Int32) (m0 m1 : Nat) (z : Int32) (h0 : Heap) (n0 : Nat) (Z0 : n0 ≤ h0.size) (E0 : Exa Z h0 o0 "java/lang/String") (C0 : Fld Z h0 o0 "java/lang/String" "coder" "B" (.int 0)) (V0 : Fld Z h0 o0 "java/lang/String" "value" "[B" (.ref t0)) (A0 : OAr Z h0 t0 .byte m0 (ci c0)) (E1 : Exa Z h0 o1 "java/lang/String") (C1 : Fld Z h0 o1 "java/lang/String" "coder" "B" (.int 0)) (V1 : Fld Z h0 o1 "java/lang/String" "value" "[B" (.ref t1)) (A1 : OAr Z h0 t1 .byte m1 (ci c1)) (S : Sta Z h0 "java/lang/String" "COMPACT_STRINGS" "Z" (.int z)) (hz : ¬ z = 0) (r : Int32) (h01 : r = 0 ∨ r = 1) (hr : o0 = o1 → r = 1) (hq : f6_0 c0 m0 c1 m1 = some r) :
    MetFree l (⟨"java/lang/String", "equals", "(Ljava/lang/Object;)Z"⟩ : MethodName) (head1 (Jvm.Cond.code (⟨"java/lang/String", "equals", "(Ljava/lang/Object;)Z"⟩ : MethodName) jdk_42_method_66_code 3 (some .boolean) :: ws) ({ frames := 1, cells := 0, slots := 0, locals := 14 } : Room)) (fun a U => a = #[(.ref o0), (.ref o1)] ∧ Z.Warmed39 U.vm ∧ U.heap = h0) (fun _ _ _ _ _ => True) (fun _ U o U' => ∃ v L, o = .returned v ∧ QdEq h0 n0 r v U'.heap L ∧ FrameEnd U o U' L ({ frames := 1, cells := 0, slots := 0, locals := 14 } : Room).cells ({ frames := 1, cells := 0, slots := 0, locals := 14 } : Room).slots) := by
  refine MetFree.of_bodySF (plainFor_of_name pn_5) hisR ?_
  intro p e s m args below meth c s₁ Bd hml0 hP hK
  obtain ⟨rfl, hZ, hh⟩ := hP
  have e0 : s₁.heap = h0 := by rw [← hh, Bd.state]; rfl
  exact OG.cast (ef_5 m o0 o1) (bEq Bd.exec hZ hw Bd.bytes hml0 (findClass_of_methodNamed Bd.named) Bd.returns Bd.notSynchronized o0 o1 t0 t1 c0 c1 m0 m1 z h0 n0 Z0 E0 C0 V0 A0 E1 C1 V1 A1 S hz r h01 hr hq (Stand.of_body Bd) e0 (Fr.nil n0))
theorem d4_0 : decode prog_73_method_7_code 0 = .ok (.aconst_null, 1) := by decide +kernel
theorem d4_1 : decode prog_73_method_7_code 1 = .ok (.astore_n 1, 1) := by decide +kernel
theorem d4_2 : decode prog_73_method_7_code 2 = .ok (.aload_n 0, 1) := by decide +kernel
theorem d4_3 : decode prog_73_method_7_code 3 = .ok (.getfield 16, 3) := by decide +kernel
theorem d4_6 : decode prog_73_method_7_code 6 = .ok (.lconst 0, 1) := by decide +kernel
theorem d4_7 : decode prog_73_method_7_code 7 = .ok (.lcmp, 1) := by decide +kernel
theorem d4_8 : decode prog_73_method_7_code 8 = .ok (.ifCond .ge 9, 3) := by decide +kernel
theorem d4_11 : decode prog_73_method_7_code 11 = .ok (.ldc 46, 2) := by decide +kernel
theorem d4_13 : decode prog_73_method_7_code 13 = .ok (.astore_n 1, 1) := by decide +kernel
theorem d4_14 : decode prog_73_method_7_code 14 = .ok (.goto 30, 3) := by decide +kernel
theorem d4_44 : decode prog_73_method_7_code 44 = .ok (.aload_n 1, 1) := by decide +kernel
theorem d4_45 : decode prog_73_method_7_code 45 = .ok (.areturn, 1) := by decide +kernel
theorem d4_17 : decode prog_73_method_7_code 17 = .ok (.aload_n 0, 1) := by decide +kernel
theorem d4_18 : decode prog_73_method_7_code 18 = .ok (.getfield 19, 3) := by decide +kernel
theorem d4_21 : decode prog_73_method_7_code 21 = .ok (.lconst 1, 1) := by decide +kernel
theorem d4_22 : decode prog_73_method_7_code 22 = .ok (.lcmp, 1) := by decide +kernel
theorem d4_23 : decode prog_73_method_7_code 23 = .ok (.ifCond .ge 9, 3) := by decide +kernel
theorem d4_26 : decode prog_73_method_7_code 26 = .ok (.ldc 48, 2) := by decide +kernel
theorem d4_28 : decode prog_73_method_7_code 28 = .ok (.astore_n 1, 1) := by decide +kernel
theorem d4_29 : decode prog_73_method_7_code 29 = .ok (.goto 15, 3) := by decide +kernel
theorem d4_32 : decode prog_73_method_7_code 32 = .ok (.aload_n 0, 1) := by decide +kernel
theorem d4_33 : decode prog_73_method_7_code 33 = .ok (.getfield 22, 3) := by decide +kernel
theorem d4_36 : decode prog_73_method_7_code 36 = .ok (.lconst 0, 1) := by decide +kernel
theorem d4_37 : decode prog_73_method_7_code 37 = .ok (.lcmp, 1) := by decide +kernel
theorem d4_38 : decode prog_73_method_7_code 38 = .ok (.ifCond .ge 6, 3) := by decide +kernel
theorem d4_41 : decode prog_73_method_7_code 41 = .ok (.ldc 49, 2) := by decide +kernel
theorem d4_43 : decode prog_73_method_7_code 43 = .ok (.astore_n 1, 1) := by decide +kernel
def f4_0 (u_runTime : Int64) (u_size : Int64) (u_estimate : Int64) : Unit := (if u_runTime < (0 : Int64) then () else (if u_size < (1 : Int64) then () else (if u_estimate < (0 : Int64) then () else ())))
set_option maxRecDepth 65536 in
set_option maxHeartbeats 40000000 in
theorem b4_0 {p : Program} {l : Launch} {e : Env} {s : State} {m : MethodId} {args : Array Value} {below : List Frame} {meth : Method} {c : Code} {Z : State} {a0 : Array Value} {h0 : Heap} {n0 : Nat} {vm : Vm} (hx : p.tables.exec = Jvm.exec) (hZ : Z.Warmed39 vm) (hw : ∀ d ∈ tables_1, d.before a0 Z = true) (hby : c.code = prog_73_method_7_code) (hml : c.maxLocals = 2) (hown : vm.findClass "com/example/gangway/gangway/model/Job" = some m.cls) (hnm : meth.name = "unknownValue") (hret : meth.sig.returnType = some (.object "java/lang/String")) (hlk : meth.locks = false) (o0 : Addr) {T : State} {locs : List Loc} {h : Heap} {k0 : Nat} (u_runTime : Int64) (u_size : Int64) (u_estimate : Int64) (r : Unit) (X : Stand p l e ({ frames := 0, cells := 2, slots := 68, locals := 0 } : Room) (s.setVm vm) m args below meth c T locs 0 0) (eT : T.heap = h) (N : Fr n0 locs) (hsz : n0 ≤ h.size) (hS : s.Since vm k0) (hk : k0 ≤ h.size) (K : Keep h0 h []) (E_o0 : Exa Z h o0 "com/example/gangway/gangway/model/Job") (F_o0_runTime : Fld Z h o0 "com/example/gangway/gangway/model/Job" "runTime" "J" (.long u_runTime)) (F_o0_size : Fld Z h o0 "com/example/gangway/gangway/model/Job" "size" "J" (.long u_size)) (F_o0_estimate : Fld Z h o0 "com/example/gangway/gangway/model/Job" "estimate" "J" (.long u_estimate)) (g_o0 : n0 ≤ o0) (hEL : EW Z a0 consts_1) (HR : CHr Z consts_1 s.vm h0 vm h) (hr : f4_0 u_runTime u_size u_estimate = r) :
    OGV p e below s (fun v U L => (Fr n0 L ∧ Keep h0 U.heap [] ∧ UV Z u_runTime u_size u_estimate v U.heap) ∧ CHr Z consts_1 s.vm h0 U.vm U.heap) 2 68 T (mkF m 0 #[.val (.ref o0), .unset] []) := by
  have hr : (if u_runTime < (0 : Int64) then () else (if u_size < (1 : Int64) then () else (if u_estimate < (0 : Int64) then () else ()))) = r := hr
  refine v_aconst_null X hx (hb hby d4_0) (pc' := 1) rfl ?_
  refine v_astore_n X hx (hb hby d4_1) rfl #[.val (.ref o0), .val .null] rfl (pc' := 2) rfl ?_
  refine v_aload_n X hx (hb hby d4_2) rfl rfl (pc' := 3) rfl ?_
  refine v_getF X hx hZ hown eT (hw _ (List.mem_of_getElem? (i := 18) rfl)) Via.refl F_o0_runTime (hb hby d4_3) (pc' := 6) rfl ?_
  intro T1 X1 e1
  refine v_lconst X1 hx (hb hby d4_6) (0 : Int64) rfl (pc' := 7) rfl ?_
  refine v_lcmp X1 hx (hb hby d4_7) (pc' := 8) rfl ?_
  by_cases hc2 : u_runTime < (0 : Int64)
  · rw [if_pos hc2] at hr
    refine v_ifNo X1 hx (hb hby d4_8) (l_tlt hc2).2 (pc' := 11) rfl ?_
    refine v_ldcC X1 hx hZ hown (hw _ (List.mem_of_getElem? (i := 31) rfl)) (own_wS hw) e1 hS hk hEL (List.mem_of_getElem? (i := 0) rfl) HR.1 (vs := [Value.int (114 : Int32), Value.int (117 : Int32), Value.int (110 : Int32), Value.int (32 : Int32), Value.int (116 : Int32), Value.int (105 : Int32), Value.int (109 : Int32), Value.int (101 : Int32)]) (z := (8 : Int32)) ⟨by decide, by decide⟩ (by decide) rfl [(114 : Int32), (117 : Int32), (110 : Int32), (32 : Int32), (116 : Int32), (105 : Int32), (109 : Int32), (101 : Int32)] rfl (by decide) (hb hby d4_11) 64 (by decide) (by decide) (by decide) (by decide) (pc' := 13) rfl ?_
    intro a3 t3 T3 h3 vm3 X3 e3 E3 S3 hZ hown C3 F3_E F3_C F3_V F3_A
    have A3_o0 := Exa.ext E3 E_o0
    have F3_o0_runTime := Fld.ext E3 F_o0_runTime
    have F3_o0_size := Fld.ext E3 F_o0_size
    have F3_o0_estimate := Fld.ext E3 F_o0_estimate
    have z3 : n0 ≤ h3.size := Nat.le_trans hsz E3.1
    have K3 := Keep.ext K E3
    have R3 := CHr.trans HR C3
    refine v_astore_n X3 hx (hb hby d4_13) rfl #[.val (.ref o0), .val (.ref a3)] rfl (pc' := 14) rfl ?_
    refine v_goto X3 hx (hb hby d4_14) (pc' := 44) (by decide) (by decide) ?_
    refine v_aload_n X3 hx (hb hby d4_44) rfl rfl (pc' := 45) rfl ?_
    have RT := CHr.trans R3 (CHv.at X3 hZ hEL R3.1)
    exact v_retA X3 S3 (by rw [e3]; exact (Nat.le_refl _)) hx hlk hret rfl rfl rfl (hb hby d4_45) (fun fs => by show (Fr n0 _ ∧ Keep h0 T3.heap [] ∧ UV Z u_runTime u_size u_estimate _ T3.heap) ∧ CHr Z consts_1 s.vm h0 T3.vm T3.heap; rw [e3]; exact ⟨⟨N, K3, (Or.inl ⟨hc2, a3, rfl, t3, F3_E, F3_C, F3_V, F3_A⟩)⟩, RT⟩) (by decide) (by decide)
  · rw [if_neg hc2] at hr
    refine v_ifYes X1 hx (hb hby d4_8) (l_flt hc2).2 (pc' := 17) (by decide) (by decide) ?_
    refine v_aload_n X1 hx (hb hby d4_17) rfl rfl (pc' := 18) rfl ?_
    refine v_getF X1 hx hZ hown e1 (hw _ (List.mem_of_getElem? (i := 20) rfl)) Via.refl F_o0_size (hb hby d4_18) (pc' := 21) rfl ?_
    intro T4 X4 e4
    refine v_lconst X4 hx (hb hby d4_21) (1 : Int64) rfl (pc' := 22) rfl ?_
    refine v_lcmp X4 hx (hb hby d4_22) (pc' := 23) rfl ?_
    by_cases hc5 : u_size < (1 : Int64)
    · rw [if_pos hc5] at hr
      refine v_ifNo X4 hx (hb hby d4_23) (l_tlt hc5).2 (pc' := 26) rfl ?_
      refine v_ldcC X4 hx hZ hown (hw _ (List.mem_of_getElem? (i := 57) rfl)) (own_wS hw) e4 hS hk hEL (List.mem_of_getElem? (i := 1) rfl) HR.1 (vs := [Value.int (115 : Int32), Value.int (105 : Int32), Value.int (122 : Int32), Value.int (101 : Int32)]) (z := (4 : Int32)) ⟨by decide, by decide⟩ (by decide) rfl [(115 : Int32), (105 : Int32), (122 : Int32), (101 : Int32)] rfl (by decide) (hb hby d4_26) 64 (by decide) (by decide) (by decide) (by decide) (pc' := 28) rfl ?_
      intro a6 t6 T6 h6 vm6 X6 e6 E6 S6 hZ hown C6 F6_E F6_C F6_V F6_A
      have A6_o0 := Exa.ext E6 E_o0
      have F6_o0_runTime := Fld.ext E6 F_o0_runTime
      have F6_o0_size := Fld.ext E6 F_o0_size
      have F6_o0_estimate := Fld.ext E6 F_o0_estimate
      have z6 : n0 ≤ h6.size := Nat.le_trans hsz E6.1
      have K6 := Keep.ext K E6
      have R6 := CHr.trans HR C6
      refine v_astore_n X6 hx (hb hby d4_28) rfl #[.val (.ref o0), .val (.ref a6)] rfl (pc' := 29) rfl ?_
      refine v_goto X6 hx (hb hby d4_29) (pc' := 44) (by decide) (by decide) ?_
      refine v_aload_n X6 hx (hb hby d4_44) rfl rfl (pc' := 45) rfl ?_
      have RT := CHr.trans R6 (CHv.at X6 hZ hEL R6.1)
      exact v_retA X6 S6 (by rw [e6]; exact (Nat.le_refl _)) hx hlk hret rfl rfl rfl (hb hby d4_45) (fun fs => by show (Fr n0 _ ∧ Keep h0 T6.heap [] ∧ UV Z u_runTime u_size u_estimate _ T6.heap) ∧ CHr Z consts_1 s.vm h0 T6.vm T6.heap; rw [e6]; exact ⟨⟨N, K6, (Or.inr (Or.inl ⟨hc2, hc5, a6, rfl, t6, F6_E, F6_C, F6_V, F6_A⟩))⟩, RT⟩) (by decide) (by decide)
    · rw [if_neg hc5] at hr
      refine v_ifYes X4 hx (hb hby d4_23) (l_flt hc5).2 (pc' := 32) (by decide) (by decide) ?_
      refine v_aload_n X4 hx (hb hby d4_32) rfl rfl (pc' := 33) rfl ?_
      refine v_getF X4 hx hZ hown e4 (hw _ (List.mem_of_getElem? (i := 22) rfl)) Via.refl F_o0_estimate (hb hby d4_33) (pc' := 36) rfl ?_
      intro T7 X7 e7
      refine v_lconst X7 hx (hb hby d4_36) (0 : Int64) rfl (pc' := 37) rfl ?_
      refine v_lcmp X7 hx (hb hby d4_37) (pc' := 38) rfl ?_
      by_cases hc8 : u_estimate < (0 : Int64)
      · rw [if_pos hc8] at hr
        refine v_ifNo X7 hx (hb hby d4_38) (l_tlt hc8).2 (pc' := 41) rfl ?_
        refine v_ldcC X7 hx hZ hown (hw _ (List.mem_of_getElem? (i := 45) rfl)) (own_wS hw) e7 hS hk hEL (List.mem_of_getElem? (i := 2) rfl) HR.1 (vs := [Value.int (101 : Int32), Value.int (115 : Int32), Value.int (116 : Int32), Value.int (105 : Int32), Value.int (109 : Int32), Value.int (97 : Int32), Value.int (116 : Int32), Value.int (101 : Int32)]) (z := (8 : Int32)) ⟨by decide, by decide⟩ (by decide) rfl [(101 : Int32), (115 : Int32), (116 : Int32), (105 : Int32), (109 : Int32), (97 : Int32), (116 : Int32), (101 : Int32)] rfl (by decide) (hb hby d4_41) 64 (by decide) (by decide) (by decide) (by decide) (pc' := 43) rfl ?_
        intro a9 t9 T9 h9 vm9 X9 e9 E9 S9 hZ hown C9 F9_E F9_C F9_V F9_A
        have A9_o0 := Exa.ext E9 E_o0
        have F9_o0_runTime := Fld.ext E9 F_o0_runTime
        have F9_o0_size := Fld.ext E9 F_o0_size
        have F9_o0_estimate := Fld.ext E9 F_o0_estimate
        have z9 : n0 ≤ h9.size := Nat.le_trans hsz E9.1
        have K9 := Keep.ext K E9
        have R9 := CHr.trans HR C9
        refine v_astore_n X9 hx (hb hby d4_43) rfl #[.val (.ref o0), .val (.ref a9)] rfl (pc' := 44) rfl ?_
        refine v_aload_n X9 hx (hb hby d4_44) rfl rfl (pc' := 45) rfl ?_
        have RT := CHr.trans R9 (CHv.at X9 hZ hEL R9.1)
        exact v_retA X9 S9 (by rw [e9]; exact (Nat.le_refl _)) hx hlk hret rfl rfl rfl (hb hby d4_45) (fun fs => by show (Fr n0 _ ∧ Keep h0 T9.heap [] ∧ UV Z u_runTime u_size u_estimate _ T9.heap) ∧ CHr Z consts_1 s.vm h0 T9.vm T9.heap; rw [e9]; exact ⟨⟨N, K9, (Or.inr (Or.inr (Or.inl ⟨hc2, hc5, hc8, a9, rfl, t9, F9_E, F9_C, F9_V, F9_A⟩)))⟩, RT⟩) (by decide) (by decide)
      · rw [if_neg hc8] at hr
        refine v_ifYes X7 hx (hb hby d4_38) (l_flt hc8).2 (pc' := 44) (by decide) (by decide) ?_
        refine v_aload_n X7 hx (hb hby d4_44) rfl rfl (pc' := 45) rfl ?_
        have RT := CHr.trans HR (CHv.at X7 hZ hEL HR.1)
        exact v_retA X7 hS (by rw [e7]; exact hk) hx hlk hret rfl rfl rfl (hb hby d4_45) (fun fs => by show (Fr n0 _ ∧ Keep h0 T7.heap [] ∧ UV Z u_runTime u_size u_estimate _ T7.heap) ∧ CHr Z consts_1 s.vm h0 T7.vm T7.heap; rw [e7]; exact ⟨⟨N, K, (Or.inr (Or.inr (Or.inr ⟨hc2, hc5, hc8, rfl⟩)))⟩, RT⟩) (by decide) (by decide)
theorem pn_4 : plainName "com/example/gangway/gangway/model/Job" = true := by first | (simp [plainName, overriddenIn]; done) | decide +kernel
theorem ef_4 (m : MethodId) (o0 : Addr) : entryFrame m #[(.ref o0)] 2 = (mkF m 0 #[.val (.ref o0), .unset] []) := by first | (simp [entryFrame, mkF, argsToLocals, Value.category]; done) | rfl
def Qd4 (Z : State) (h0 : Heap) (n0 : Nat) (o0 : Addr) (u_runTime : Int64) (u_size : Int64) (u_estimate : Int64) : Option Value → Heap → List Loc → Prop := (fun v h L => Fr n0 L ∧ Keep h0 h [] ∧ UV Z u_runTime u_size u_estimate v h)
set_option maxRecDepth 65536 in
set_option maxHeartbeats 40000000 in
theorem rm4 (l : Launch) (Z : State) (a0 : Array Value) (hw : ∀ d ∈ tables_1, d.before a0 Z = true) (ws : List Jvm.Cond) (o0 : Addr) (u_runTime : Int64) (u_size : Int64) (u_estimate : Int64) (h0 : Heap) (n0 : Nat) (Z0 : n0 ≤ h0.size) (E_o0 : Exa Z h0 o0 "com/example/gangway/gangway/model/Job") (F_o0_runTime : Fld Z h0 o0 "com/example/gangway/gangway/model/Job" "runTime" "J" (.long u_runTime)) (F_o0_size : Fld Z h0 o0 "com/example/gangway/gangway/model/Job" "size" "J" (.long u_size)) (F_o0_estimate : Fld Z h0 o0 "com/example/gangway/gangway/model/Job" "estimate" "J" (.long u_estimate)) (g_o0 : n0 ≤ o0) (hEL : EW Z a0 consts_1) :
    MetFree l (⟨"com/example/gangway/gangway/model/Job", "unknownValue", "()Ljava/lang/String;"⟩ : MethodName) (head1 (Jvm.Cond.code (⟨"com/example/gangway/gangway/model/Job", "unknownValue", "()Ljava/lang/String;"⟩ : MethodName) prog_73_method_7_code 2 (some (.object "java/lang/String")) :: ws) ({ frames := 0, cells := 2, slots := 68, locals := 0 } : Room)) (fun a U => a = #[(.ref o0)] ∧ Z.Warmed39 U.vm ∧ U.heap = h0 ∧ CHv Z consts_1 U.vm h0) (fun _ _ _ _ _ => True) (fun _ U o U' => ∃ v L, o = .returned v ∧ (Qd4 Z h0 n0 o0 u_runTime u_size u_estimate) v U'.heap L ∧ CHr Z consts_1 U.vm U.heap U'.vm U'.heap ∧ ReturnedEndW U o U' L ({ frames := 0, cells := 2, slots := 68, locals := 0 } : Room).cells ({ frames := 0, cells := 2, slots := 68, locals := 0 } : Room).slots) := by
  refine MetFree.of_bodySF (plainFor_of_name pn_4) hisR ?_
  intro p e s m args below meth c s₁ Bd hml0 hP hK
  obtain ⟨rfl, hZ, hh, hCH⟩ := hP
  have e0 : s₁.heap = h0 := by rw [← hh, Bd.state]; rfl
  obtain ⟨s₂, o, g1, g2, g3, v, L, g4, ⟨g5, g6⟩, g7⟩ := OGV.cast (ef_4 m o0) (b4_0 Bd.exec hZ hw Bd.bytes hml0 (findClass_of_methodNamed Bd.named) (name_of_methodNamed Bd.named Bd.method).1 Bd.returns Bd.notSynchronized o0 u_runTime u_size u_estimate () (Stand.of_body Bd) e0 (Fr.nil n0) Z0 ((State.WarmedH.refl s).since 0) (Nat.zero_le _) (Keep.refl h0 []) E_o0 F_o0_runTime F_o0_size F_o0_estimate g_o0 hEL (CHr.refl hCH) rfl)
  exact ⟨s₂, o, g1, g2, g3, v, L, g4, g5, by rw [hh]; exact g6, g7⟩
theorem pd_2 : parseMethodDescriptor "(JJJJJI)V" = some ⟨[.long, .long, .long, .long, .long, .int], none⟩ := by decide +kernel
theorem pd_3 : parseMethodDescriptor "()Ljava/lang/String;" = some ⟨[], some (.object "java/lang/String")⟩ := by decide +kernel
theorem pd_4 : parseMethodDescriptor "(Ljava/lang/Object;)Z" = some ⟨[(.object "java/lang/Object")], some .boolean⟩ := by decide +kernel
def f0_0 (x0 : Int64) (x2 : Int64) (x4 : Int64) (x6 : Int64) (x8 : Int64) (x10 : Int32) : Option (Int32) := (if x4 < (0 : Int64) then (if x6 < (1 : Int64) then (if x8 < (0 : Int64) then (some (1 : Int32)) else (some (1 : Int32))) else (if x8 < (0 : Int64) then (some (1 : Int32)) else (some (1 : Int32)))) else (if x6 < (1 : Int64) then (if x8 < (0 : Int64) then (some (1 : Int32)) else (some (1 : Int32))) else (if x8 < (0 : Int64) then (some (1 : Int32)) else (some (1 : Int32)))))
set_option maxRecDepth 65536 in
set_option maxHeartbeats 40000000 in
theorem b0_0 {p : Program} {l : Launch} {e : Env} {s : State} {m : MethodId} {args : Array Value} {below : List Frame} {meth : Method} {c : Code} {Z : State} {a0 : Array Value} {n0 : Nat} {vm : Vm} (hx : p.tables.exec = Jvm.exec) (hZ : Z.Warmed39 vm) (hw : ∀ d ∈ tables_1, d.before a0 Z = true) (hby : c.code = code) (hml : c.maxLocals = 16) (hown : vm.findClass "com/example/gangway/gangway/model/JobUnknownValuePinLaw" = some m.cls) (hnm : meth.name = "law") (hret : meth.sig.returnType = some .boolean) (hlk : meth.locks = false)  {T : State} {locs : List Loc} {h : Heap} {k0 : Nat} (x0 : Int64) (x2 : Int64) (x4 : Int64) (x6 : Int64) (x8 : Int64) (x10 : Int32) (r : Int32) (X : Stand p l e room_1 (s.setVm vm) m args below meth c T locs 0 0) (eT : T.heap = h) (N : Fr n0 locs) (hsz : n0 ≤ h.size) (hS : s.Since vm k0) (hk : k0 ≤ h.size) (hEL : EW Z a0 consts_1) (H : CHv Z consts_1 vm h) (O : Old Z n0 h) (z : Int32) (S0 : Sta Z Z.heap "java/lang/String" "COMPACT_STRINGS" "Z" (.int z)) (hz : ¬ z = 0) (hr : f0_0 x0 x2 x4 x6 x8 x10 = some r) :
    OGW p e below s (fun v h L => v = (some (.int r)) ∧ Fr n0 L) 24 6272 T (mkF m 0 #[.val (.long x0), .second, .val (.long x2), .second, .val (.long x4), .second, .val (.long x6), .second, .val (.long x8), .second, .val (.int x10), .unset, .unset, .unset, .unset, .unset] []) := by
  have hr : (if x4 < (0 : Int64) then (if x6 < (1 : Int64) then (if x8 < (0 : Int64) then (some (1 : Int32)) else (some (1 : Int32))) else (if x8 < (0 : Int64) then (some (1 : Int32)) else (some (1 : Int32)))) else (if x6 < (1 : Int64) then (if x8 < (0 : Int64) then (some (1 : Int32)) else (some (1 : Int32))) else (if x8 < (0 : Int64) then (some (1 : Int32)) else (some (1 : Int32))))) = some r := hr
  refine w_new X hx hZ hown eT (hw _ (List.mem_of_getElem? (i := 0) rfl)) (hw _ (List.mem_of_getElem? (i := 1) rfl)) (hw _ (List.mem_of_getElem? (i := 2) rfl)) (hb hby at_0) (pc' := 3) rfl (by decide) (by decide) ?_
  intro T1 h1 a1 X1 e1 q1 E1 A1 D1
  have g1 : n0 ≤ a1 := Nat.le_trans hsz (Nat.le_of_eq q1.symm)
  have z1 : n0 ≤ h1.size := Nat.le_trans hsz E1.1
  have y1 := Nat.le_trans hk E1.1
  have CH1 := CHv.ext E1 H
  have O1 := Old.ext O E1
  have F1_number : Fld Z h1 a1 "com/example/gangway/gangway/model/Job" "number" "J" (.long (0 : Int64)) := D1 (Or.inr (hw _ (List.mem_of_getElem? (i := 15) rfl))) (ty := .long) (by decide)
  have F1_submit : Fld Z h1 a1 "com/example/gangway/gangway/model/Job" "submit" "J" (.long (0 : Int64)) := D1 (Or.inr (hw _ (List.mem_of_getElem? (i := 17) rfl))) (ty := .long) (by decide)
  have F1_runTime : Fld Z h1 a1 "com/example/gangway/gangway/model/Job" "runTime" "J" (.long (0 : Int64)) := D1 (Or.inr (hw _ (List.mem_of_getElem? (i := 19) rfl))) (ty := .long) (by decide)
  have F1_size : Fld Z h1 a1 "com/example/gangway/gangway/model/Job" "size" "J" (.long (0 : Int64)) := D1 (Or.inr (hw _ (List.mem_of_getElem? (i := 21) rfl))) (ty := .long) (by decide)
  have F1_estimate : Fld Z h1 a1 "com/example/gangway/gangway/model/Job" "estimate" "J" (.long (0 : Int64)) := D1 (Or.inr (hw _ (List.mem_of_getElem? (i := 23) rfl))) (ty := .long) (by decide)
  have F1_user : Fld Z h1 a1 "com/example/gangway/gangway/model/Job" "user" "I" (.int (0 : Int32)) := D1 (Or.inr (hw _ (List.mem_of_getElem? (i := 25) rfl))) (ty := .int) (by decide)
  refine w_dup X1 hx (hb hby at_3) rfl (pc' := 4) rfl ?_
  refine w_lload_n X1 hx (hb hby at_4) rfl (pc' := 5) rfl ?_
  refine w_lload_n X1 hx (hb hby at_5) rfl (pc' := 6) rfl ?_
  refine w_lload X1 hx (hb hby at_6) rfl (pc' := 8) rfl ?_
  refine w_lload X1 hx (hb hby at_8) rfl (pc' := 10) rfl ?_
  refine w_lload X1 hx (hb hby at_10) rfl (pc' := 12) rfl ?_
  refine w_iload X1 hx (hb hby at_12) rfl (pc' := 14) rfl ?_
  refine w_special X1 hx hZ (argsL := [(.long x0), (.long x2), (.long x4), (.long x6), (.long x8), (.int x10)]) (rest := [(.ref a1)]) (a := a1) 1 rfl hown e1 (hw _ (List.mem_of_getElem? (i := 3) rfl)) (hw _ (List.mem_of_getElem? (i := 4) rfl)) (hw _ (List.mem_of_getElem? (i := 2) rfl)) (hw _ (List.mem_of_getElem? (i := 5) rfl)) (by decide) (rm1 l Z a0 hw [] a1 x0 x2 x4 x6 x8 x10 (.long (0 : Int64)) (.long (0 : Int64)) (.long (0 : Int64)) (.long (0 : Int64)) (.long (0 : Int64)) (.int (0 : Int32)) h1 n0 z1 A1 F1_number F1_submit F1_runTime F1_size F1_estimate F1_user g1 (f1_0 x0 x2 x4 x6 x8 x10) rfl) (by decide) (by decide) (by rw [hml]; rfl) (lenOf pd_2 rfl) rfl (Nat.le_refl _) (hb hby at_14) (pc' := 17) rfl (by decide) (by decide) ?_
  rintro _ T2 L2 X2 ⟨rfl, N2, K2, B2, F2_number, F2_submit, F2_runTime, F2_size, F2_estimate, F2_user⟩
  replace X2 : Stand p l e room_1 (s.setVm vm) m args below meth c T2 (locs ++ L2) 1 6 := X2
  have M2 := Fr.app N N2
  dsimp only [Option.toList, List.cons_append, List.nil_append]
  have A2_a1 := Exa.keep A1 K2
  have y2 := Nat.le_trans y1 K2.1
  have z2 : n0 ≤ T2.heap.size := Nat.le_trans z1 K2.1
  have CH2 := CHv.keep K2 (by intro x hx; simp at hx; subst hx; exact Safe.exa hZ.alike A1 (by decide) (by decide)) CH1
  have O2 := Old.keep O1 K2 (by intro x hx; simp at hx; subst hx; exact g1)
  refine w_astore X2 hx (hb hby at_17) rfl #[.val (.long x0), .second, .val (.long x2), .second, .val (.long x4), .second, .val (.long x6), .second, .val (.long x8), .second, .val (.int x10), .val (.ref a1), .unset, .unset, .unset, .unset] rfl (pc' := 19) rfl ?_
  refine w_aload X2 hx (hb hby at_19) rfl rfl (pc' := 21) rfl ?_
  refine w_virtualH X2 hx hZ (argsL := []) (rest := []) (a := a1) 0 hown (rfl : T2.heap = T2.heap) hS y2 hEL CH2 (hw _ (List.mem_of_getElem? (i := 26) rfl)) (hw _ (List.mem_of_getElem? (i := 27) rfl)) (hw _ (List.mem_of_getElem? (i := 29) rfl)) (hw _ (List.mem_of_getElem? (i := 28) rfl)) (hw _ (List.mem_of_getElem? (i := 2) rfl)) (hw _ (List.mem_of_getElem? (i := 30) rfl)) (by decide) B2 (rm4 l Z a0 hw [] a1 (f1_0 x0 x2 x4 x6 x8 x10).2.2.1 (f1_0 x0 x2 x4 x6 x8 x10).2.2.2.1 (f1_0 x0 x2 x4 x6 x8 x10).2.2.2.2.1 T2.heap n0 z2 B2 F2_runTime F2_size F2_estimate g1 hEL) (by decide) (by decide) (by rw [hml]; rfl) (lenOf pd_3 rfl) rfl (Nat.le_refl _) (hb hby at_21) (pc' := 24) rfl (by decide) (by decide) ?_
  rintro v3 T3 L3 vm3 X3 ⟨N3, K3, UV3⟩ S3 hZ hown C3
  replace X3 : Stand p l e room_1 (s.setVm vm3) m args below meth c T3 ((locs ++ L2) ++ L3) 3 74 := X3
  have M3 := Fr.app M2 N3
  have A3_a1 := Exa.keep B2 K3
  have F3_a1_number := Fld.keep F2_number K3 (by simp)
  have F3_a1_submit := Fld.keep F2_submit K3 (by simp)
  have F3_a1_runTime := Fld.keep F2_runTime K3 (by simp)
  have F3_a1_size := Fld.keep F2_size K3 (by simp)
  have F3_a1_estimate := Fld.keep F2_estimate K3 (by simp)
  have F3_a1_user := Fld.keep F2_user K3 (by simp)
  have z3 : n0 ≤ T3.heap.size := Nat.le_trans z2 K3.1
  have O3 := Old.keep O2 K3 (by simp)
  rcases UV3 with ⟨c1, a3, rfl, t3, G1, G2, G3, G4⟩ | ⟨c1, c2, a3, rfl, t3, G1, G2, G3, G4⟩ | ⟨c1, c2, c3, a3, rfl, t3, G1, G2, G3, G4⟩ | ⟨c1, c2, c3, rfl⟩
  · replace c1 : (x4 < (0 : Int64)) := c1
    rw [if_pos c1] at hr
    dsimp only [Option.toList, List.cons_append, List.nil_append]
    refine w_astore X3 hx (hb hby at_24) rfl #[.val (.long x0), .second, .val (.long x2), .second, .val (.long x4), .second, .val (.long x6), .second, .val (.long x8), .second, .val (.int x10), .val (.ref a1), .val (.ref a3), .unset, .unset, .unset] rfl (pc' := 26) rfl ?_
    refine w_lload X3 hx (hb hby at_26) rfl (pc' := 28) rfl ?_
    refine w_lconst X3 hx (hb hby at_28) (0 : Int64) rfl (pc' := 29) rfl ?_
    refine w_lcmp X3 hx (hb hby at_29) (pc' := 30) rfl ?_
    refine w_ifNo X3 hx (hb hby at_30) (l_tlt c1).2 (pc' := 33) rfl ?_
    refine w_iconst X3 hx (hb hby at_33) (1 : Int32) rfl (pc' := 34) rfl ?_
    refine w_goto X3 hx (hb hby at_34) (pc' := 38) (by decide) (by decide) ?_
    refine w_istore X3 hx (hb hby at_38) #[.val (.long x0), .second, .val (.long x2), .second, .val (.long x4), .second, .val (.long x6), .second, .val (.long x8), .second, .val (.int x10), .val (.ref a1), .val (.ref a3), .val (.int (1 : Int32)), .unset, .unset] rfl (pc' := 40) rfl ?_
    refine w_lload X3 hx (hb hby at_40) rfl (pc' := 42) rfl ?_
    refine w_lconst X3 hx (hb hby at_42) (1 : Int64) rfl (pc' := 43) rfl ?_
    refine w_lcmp X3 hx (hb hby at_43) (pc' := 44) rfl ?_
    by_cases hc4 : x6 < (1 : Int64)
    · rw [if_pos hc4] at hr
      refine w_ifNo X3 hx (hb hby at_44) (l_tlt hc4).2 (pc' := 47) rfl ?_
      refine w_iconst X3 hx (hb hby at_47) (1 : Int32) rfl (pc' := 48) rfl ?_
      refine w_goto X3 hx (hb hby at_48) (pc' := 52) (by decide) (by decide) ?_
      refine w_istore X3 hx (hb hby at_52) #[.val (.long x0), .second, .val (.long x2), .second, .val (.long x4), .second, .val (.long x6), .second, .val (.long x8), .second, .val (.int x10), .val (.ref a1), .val (.ref a3), .val (.int (1 : Int32)), .val (.int (1 : Int32)), .unset] rfl (pc' := 54) rfl ?_
      refine w_lload X3 hx (hb hby at_54) rfl (pc' := 56) rfl ?_
      refine w_lconst X3 hx (hb hby at_56) (0 : Int64) rfl (pc' := 57) rfl ?_
      refine w_lcmp X3 hx (hb hby at_57) (pc' := 58) rfl ?_
      by_cases hc5 : x8 < (0 : Int64)
      · rw [if_pos hc5] at hr
        refine w_ifNo X3 hx (hb hby at_58) (l_tlt hc5).2 (pc' := 61) rfl ?_
        refine w_iconst X3 hx (hb hby at_61) (1 : Int32) rfl (pc' := 62) rfl ?_
        refine w_goto X3 hx (hb hby at_62) (pc' := 66) (by decide) (by decide) ?_
        refine w_istore X3 hx (hb hby at_66) #[.val (.long x0), .second, .val (.long x2), .second, .val (.long x4), .second, .val (.long x6), .second, .val (.long x8), .second, .val (.int x10), .val (.ref a1), .val (.ref a3), .val (.int (1 : Int32)), .val (.int (1 : Int32)), .val (.int (1 : Int32))] rfl (pc' := 68) rfl ?_
        refine w_aload X3 hx (hb hby at_68) rfl rfl (pc' := 70) rfl ?_
        refine w_ifnonnullYes X3 hx (hb hby at_70) (pc' := 94) (by decide) (by decide) ?_
        refine w_aload X3 hx (hb hby at_94) rfl rfl (pc' := 96) rfl ?_
        refine w_ldcC X3 hx hZ hown (hw _ (List.mem_of_getElem? (i := 39) rfl)) (own_wS hw) (rfl : T3.heap = T3.heap) S3 (Nat.le_refl _) hEL (List.mem_of_getElem? (i := 3) rfl) C3.1 (vs := [Value.int (114 : Int32), Value.int (117 : Int32), Value.int (110 : Int32), Value.int (32 : Int32), Value.int (116 : Int32), Value.int (105 : Int32), Value.int (109 : Int32), Value.int (101 : Int32)]) (z := (8 : Int32)) ⟨by decide, by decide⟩ (by decide) rfl [(114 : Int32), (117 : Int32), (110 : Int32), (32 : Int32), (116 : Int32), (105 : Int32), (109 : Int32), (101 : Int32)] rfl (by decide) (hb hby at_96) 64 (by decide) (by decide) (by decide) (by decide) (pc' := 98) rfl ?_
        intro a6 t6 T6 h6 vm6 X6 e6 E6 S6 hZ hown C6 F6_E F6_C F6_V F6_A
        have A6_a1 := Exa.ext E6 A3_a1
        have F6_a1_number := Fld.ext E6 F3_a1_number
        have F6_a1_submit := Fld.ext E6 F3_a1_submit
        have F6_a1_runTime := Fld.ext E6 F3_a1_runTime
        have F6_a1_size := Fld.ext E6 F3_a1_size
        have F6_a1_estimate := Fld.ext E6 F3_a1_estimate
        have F6_a1_user := Fld.ext E6 F3_a1_user
        have A6_a3 := Exa.ext E6 G1
        have F6_a3_coder := Fld.ext E6 G2
        have F6_a3_value := Fld.ext E6 G3
        have A6_t3 := OAr.ext E6 G4
        have z6 : n0 ≤ h6.size := Nat.le_trans z3 E6.1
        have O6 := Old.ext O3 E6
        refine w_virtual X6 hx hZ (argsL := [(.ref a6)]) (rest := []) (a := a3) 0 hown e6 (hw _ (List.mem_of_getElem? (i := 40) rfl)) (hw _ (List.mem_of_getElem? (i := 41) rfl)) (hw _ (List.mem_of_getElem? (i := 43) rfl)) (hw _ (List.mem_of_getElem? (i := 42) rfl)) (hw _ (List.mem_of_getElem? (i := 32) rfl)) (hw _ (List.mem_of_getElem? (i := 44) rfl)) (by decide) A6_a3 (rmEq l Z a0 hw [] a3 a6 t3 t6 (li [(114 : Int32), (117 : Int32), (110 : Int32), (32 : Int32), (116 : Int32), (105 : Int32), (109 : Int32), (101 : Int32)]) (li [(114 : Int32), (117 : Int32), (110 : Int32), (32 : Int32), (116 : Int32), (105 : Int32), (109 : Int32), (101 : Int32)]) 8 8 z h6 n0 z6 A6_a3 F6_a3_coder F6_a3_value A6_t3 F6_E F6_C F6_V F6_A (Sta.ext O6.2 S0) hz 1 (Or.inr rfl) (fun _ => rfl) (by decide)) (by decide) (by decide) (by rw [hml]; rfl) (lenOf pd_4 rfl) rfl (Nat.le_refl _) (hb hby at_98) (pc' := 101) rfl (by decide) (by decide) ?_
        rintro _ T7 L7 X7 ⟨rfl, N7, e7⟩
        replace X7 : Stand p l e room_1 (s.setVm vm6) m args below meth c T7 (((locs ++ L2) ++ L3) ++ L7) 5 142 := X7
        have M7 := Fr.app M3 N7
        dsimp only [Option.toList, List.cons_append, List.nil_append]
        refine w_ifNo X7 hx (hb hby at_101) (z_feq (by decide : ¬ ((1 : Int32) = (0 : Int32)))).1 (pc' := 104) rfl ?_
        refine w_iload X7 hx (hb hby at_104) rfl (pc' := 106) rfl ?_
        obtain rfl : (1 : Int32) = r := Option.some.inj hr
        exact w_retN X7 S6 (by rw [e7]; exact (Nat.le_refl _)) hx hlk (t := .boolean) (by simp) hret (hb hby at_106) rfl ⟨rfl, M7⟩ (by decide) (by decide)
      · rw [if_neg hc5] at hr
        refine w_ifYes X3 hx (hb hby at_58) (l_flt hc5).2 (pc' := 65) (by decide) (by decide) ?_
        refine w_iconst X3 hx (hb hby at_65) (0 : Int32) rfl (pc' := 66) rfl ?_
        refine w_istore X3 hx (hb hby at_66) #[.val (.long x0), .second, .val (.long x2), .second, .val (.long x4), .second, .val (.long x6), .second, .val (.long x8), .second, .val (.int x10), .val (.ref a1), .val (.ref a3), .val (.int (1 : Int32)), .val (.int (1 : Int32)), .val (.int (0 : Int32))] rfl (pc' := 68) rfl ?_
        refine w_aload X3 hx (hb hby at_68) rfl rfl (pc' := 70) rfl ?_
        refine w_ifnonnullYes X3 hx (hb hby at_70) (pc' := 94) (by decide) (by decide) ?_
        refine w_aload X3 hx (hb hby at_94) rfl rfl (pc' := 96) rfl ?_
        refine w_ldcC X3 hx hZ hown (hw _ (List.mem_of_getElem? (i := 39) rfl)) (own_wS hw) (rfl : T3.heap = T3.heap) S3 (Nat.le_refl _) hEL (List.mem_of_getElem? (i := 3) rfl) C3.1 (vs := [Value.int (114 : Int32), Value.int (117 : Int32), Value.int (110 : Int32), Value.int (32 : Int32), Value.int (116 : Int32), Value.int (105 : Int32), Value.int (109 : Int32), Value.int (101 : Int32)]) (z := (8 : Int32)) ⟨by decide, by decide⟩ (by decide) rfl [(114 : Int32), (117 : Int32), (110 : Int32), (32 : Int32), (116 : Int32), (105 : Int32), (109 : Int32), (101 : Int32)] rfl (by decide) (hb hby at_96) 64 (by decide) (by decide) (by decide) (by decide) (pc' := 98) rfl ?_
        intro a8 t8 T8 h8 vm8 X8 e8 E8 S8 hZ hown C8 F8_E F8_C F8_V F8_A
        have A8_a1 := Exa.ext E8 A3_a1
        have F8_a1_number := Fld.ext E8 F3_a1_number
        have F8_a1_submit := Fld.ext E8 F3_a1_submit
        have F8_a1_runTime := Fld.ext E8 F3_a1_runTime
        have F8_a1_size := Fld.ext E8 F3_a1_size
        have F8_a1_estimate := Fld.ext E8 F3_a1_estimate
        have F8_a1_user := Fld.ext E8 F3_a1_user
        have A8_a3 := Exa.ext E8 G1
        have F8_a3_coder := Fld.ext E8 G2
        have F8_a3_value := Fld.ext E8 G3
        have A8_t3 := OAr.ext E8 G4
        have z8 : n0 ≤ h8.size := Nat.le_trans z3 E8.1
        have O8 := Old.ext O3 E8
        refine w_virtual X8 hx hZ (argsL := [(.ref a8)]) (rest := []) (a := a3) 0 hown e8 (hw _ (List.mem_of_getElem? (i := 40) rfl)) (hw _ (List.mem_of_getElem? (i := 41) rfl)) (hw _ (List.mem_of_getElem? (i := 43) rfl)) (hw _ (List.mem_of_getElem? (i := 42) rfl)) (hw _ (List.mem_of_getElem? (i := 32) rfl)) (hw _ (List.mem_of_getElem? (i := 44) rfl)) (by decide) A8_a3 (rmEq l Z a0 hw [] a3 a8 t3 t8 (li [(114 : Int32), (117 : Int32), (110 : Int32), (32 : Int32), (116 : Int32), (105 : Int32), (109 : Int32), (101 : Int32)]) (li [(114 : Int32), (117 : Int32), (110 : Int32), (32 : Int32), (116 : Int32), (105 : Int32), (109 : Int32), (101 : Int32)]) 8 8 z h8 n0 z8 A8_a3 F8_a3_coder F8_a3_value A8_t3 F8_E F8_C F8_V F8_A (Sta.ext O8.2 S0) hz 1 (Or.inr rfl) (fun _ => rfl) (by decide)) (by decide) (by decide) (by rw [hml]; rfl) (lenOf pd_4 rfl) rfl (Nat.le_refl _) (hb hby at_98) (pc' := 101) rfl (by decide) (by decide) ?_
        rintro _ T9 L9 X9 ⟨rfl, N9, e9⟩
        replace X9 : Stand p l e room_1 (s.setVm vm8) m args below meth c T9 (((locs ++ L2) ++ L3) ++ L9) 5 142 := X9
        have M9 := Fr.app M3 N9
        dsimp only [Option.toList, List.cons_append, List.nil_append]
        refine w_ifNo X9 hx (hb hby at_101) (z_feq (by decide : ¬ ((1 : Int32) = (0 : Int32)))).1 (pc' := 104) rfl ?_
        refine w_iload X9 hx (hb hby at_104) rfl (pc' := 106) rfl ?_
        obtain rfl : (1 : Int32) = r := Option.some.inj hr
        exact w_retN X9 S8 (by rw [e9]; exact (Nat.le_refl _)) hx hlk (t := .boolean) (by simp) hret (hb hby at_106) rfl ⟨rfl, M9⟩ (by decide) (by decide)
    · rw [if_neg hc4] at hr
      refine w_ifYes X3 hx (hb hby at_44) (l_flt hc4).2 (pc' := 51) (by decide) (by decide) ?_
      refine w_iconst X3 hx (hb hby at_51) (0 : Int32) rfl (pc' := 52) rfl ?_
      refine w_istore X3 hx (hb hby at_52) #[.val (.long x0), .second, .val (.long x2), .second, .val (.long x4), .second, .val (.long x6), .second, .val (.long x8), .second, .val (.int x10), .val (.ref a1), .val (.ref a3), .val (.int (1 : Int32)), .val (.int (0 : Int32)), .unset] rfl (pc' := 54) rfl ?_
      refine w_lload X3 hx (hb hby at_54) rfl (pc' := 56) rfl ?_
      refine w_lconst X3 hx (hb hby at_56) (0 : Int64) rfl (pc' := 57) rfl ?_
      refine w_lcmp X3 hx (hb hby at_57) (pc' := 58) rfl ?_
      by_cases hc10 : x8 < (0 : Int64)
      · rw [if_pos hc10] at hr
        refine w_ifNo X3 hx (hb hby at_58) (l_tlt hc10).2 (pc' := 61) rfl ?_
        refine w_iconst X3 hx (hb hby at_61) (1 : Int32) rfl (pc' := 62) rfl ?_
        refine w_goto X3 hx (hb hby at_62) (pc' := 66) (by decide) (by decide) ?_
        refine w_istore X3 hx (hb hby at_66) #[.val (.long x0), .second, .val (.long x2), .second, .val (.long x4), .second, .val (.long x6), .second, .val (.long x8), .second, .val (.int x10), .val (.ref a1), .val (.ref a3), .val (.int (1 : Int32)), .val (.int (0 : Int32)), .val (.int (1 : Int32))] rfl (pc' := 68) rfl ?_
        refine w_aload X3 hx (hb hby at_68) rfl rfl (pc' := 70) rfl ?_
        refine w_ifnonnullYes X3 hx (hb hby at_70) (pc' := 94) (by decide) (by decide) ?_
        refine w_aload X3 hx (hb hby at_94) rfl rfl (pc' := 96) rfl ?_
        refine w_ldcC X3 hx hZ hown (hw _ (List.mem_of_getElem? (i := 39) rfl)) (own_wS hw) (rfl : T3.heap = T3.heap) S3 (Nat.le_refl _) hEL (List.mem_of_getElem? (i := 3) rfl) C3.1 (vs := [Value.int (114 : Int32), Value.int (117 : Int32), Value.int (110 : Int32), Value.int (32 : Int32), Value.int (116 : Int32), Value.int (105 : Int32), Value.int (109 : Int32), Value.int (101 : Int32)]) (z := (8 : Int32)) ⟨by decide, by decide⟩ (by decide) rfl [(114 : Int32), (117 : Int32), (110 : Int32), (32 : Int32), (116 : Int32), (105 : Int32), (109 : Int32), (101 : Int32)] rfl (by decide) (hb hby at_96) 64 (by decide) (by decide) (by decide) (by decide) (pc' := 98) rfl ?_
        intro a11 t11 T11 h11 vm11 X11 e11 E11 S11 hZ hown C11 F11_E F11_C F11_V F11_A
        have A11_a1 := Exa.ext E11 A3_a1
        have F11_a1_number := Fld.ext E11 F3_a1_number
        have F11_a1_submit := Fld.ext E11 F3_a1_submit
        have F11_a1_runTime := Fld.ext E11 F3_a1_runTime
        have F11_a1_size := Fld.ext E11 F3_a1_size
        have F11_a1_estimate := Fld.ext E11 F3_a1_estimate
        have F11_a1_user := Fld.ext E11 F3_a1_user
        have A11_a3 := Exa.ext E11 G1
        have F11_a3_coder := Fld.ext E11 G2
        have F11_a3_value := Fld.ext E11 G3
        have A11_t3 := OAr.ext E11 G4
        have z11 : n0 ≤ h11.size := Nat.le_trans z3 E11.1
        have O11 := Old.ext O3 E11
        refine w_virtual X11 hx hZ (argsL := [(.ref a11)]) (rest := []) (a := a3) 0 hown e11 (hw _ (List.mem_of_getElem? (i := 40) rfl)) (hw _ (List.mem_of_getElem? (i := 41) rfl)) (hw _ (List.mem_of_getElem? (i := 43) rfl)) (hw _ (List.mem_of_getElem? (i := 42) rfl)) (hw _ (List.mem_of_getElem? (i := 32) rfl)) (hw _ (List.mem_of_getElem? (i := 44) rfl)) (by decide) A11_a3 (rmEq l Z a0 hw [] a3 a11 t3 t11 (li [(114 : Int32), (117 : Int32), (110 : Int32), (32 : Int32), (116 : Int32), (105 : Int32), (109 : Int32), (101 : Int32)]) (li [(114 : Int32), (117 : Int32), (110 : Int32), (32 : Int32), (116 : Int32), (105 : Int32), (109 : Int32), (101 : Int32)]) 8 8 z h11 n0 z11 A11_a3 F11_a3_coder F11_a3_value A11_t3 F11_E F11_C F11_V F11_A (Sta.ext O11.2 S0) hz 1 (Or.inr rfl) (fun _ => rfl) (by decide)) (by decide) (by decide) (by rw [hml]; rfl) (lenOf pd_4 rfl) rfl (Nat.le_refl _) (hb hby at_98) (pc' := 101) rfl (by decide) (by decide) ?_
        rintro _ T12 L12 X12 ⟨rfl, N12, e12⟩
        replace X12 : Stand p l e room_1 (s.setVm vm11) m args below meth c T12 (((locs ++ L2) ++ L3) ++ L12) 5 142 := X12
        have M12 := Fr.app M3 N12
        dsimp only [Option.toList, List.cons_append, List.nil_append]
        refine w_ifNo X12 hx (hb hby at_101) (z_feq (by decide : ¬ ((1 : Int32) = (0 : Int32)))).1 (pc' := 104) rfl ?_
        refine w_iload X12 hx (hb hby at_104) rfl (pc' := 106) rfl ?_
        obtain rfl : (1 : Int32) = r := Option.some.inj hr
        exact w_retN X12 S11 (by rw [e12]; exact (Nat.le_refl _)) hx hlk (t := .boolean) (by simp) hret (hb hby at_106) rfl ⟨rfl, M12⟩ (by decide) (by decide)
      · rw [if_neg hc10] at hr
        refine w_ifYes X3 hx (hb hby at_58) (l_flt hc10).2 (pc' := 65) (by decide) (by decide) ?_
        refine w_iconst X3 hx (hb hby at_65) (0 : Int32) rfl (pc' := 66) rfl ?_
        refine w_istore X3 hx (hb hby at_66) #[.val (.long x0), .second, .val (.long x2), .second, .val (.long x4), .second, .val (.long x6), .second, .val (.long x8), .second, .val (.int x10), .val (.ref a1), .val (.ref a3), .val (.int (1 : Int32)), .val (.int (0 : Int32)), .val (.int (0 : Int32))] rfl (pc' := 68) rfl ?_
        refine w_aload X3 hx (hb hby at_68) rfl rfl (pc' := 70) rfl ?_
        refine w_ifnonnullYes X3 hx (hb hby at_70) (pc' := 94) (by decide) (by decide) ?_
        refine w_aload X3 hx (hb hby at_94) rfl rfl (pc' := 96) rfl ?_
        refine w_ldcC X3 hx hZ hown (hw _ (List.mem_of_getElem? (i := 39) rfl)) (own_wS hw) (rfl : T3.heap = T3.heap) S3 (Nat.le_refl _) hEL (List.mem_of_getElem? (i := 3) rfl) C3.1 (vs := [Value.int (114 : Int32), Value.int (117 : Int32), Value.int (110 : Int32), Value.int (32 : Int32), Value.int (116 : Int32), Value.int (105 : Int32), Value.int (109 : Int32), Value.int (101 : Int32)]) (z := (8 : Int32)) ⟨by decide, by decide⟩ (by decide) rfl [(114 : Int32), (117 : Int32), (110 : Int32), (32 : Int32), (116 : Int32), (105 : Int32), (109 : Int32), (101 : Int32)] rfl (by decide) (hb hby at_96) 64 (by decide) (by decide) (by decide) (by decide) (pc' := 98) rfl ?_
        intro a13 t13 T13 h13 vm13 X13 e13 E13 S13 hZ hown C13 F13_E F13_C F13_V F13_A
        have A13_a1 := Exa.ext E13 A3_a1
        have F13_a1_number := Fld.ext E13 F3_a1_number
        have F13_a1_submit := Fld.ext E13 F3_a1_submit
        have F13_a1_runTime := Fld.ext E13 F3_a1_runTime
        have F13_a1_size := Fld.ext E13 F3_a1_size
        have F13_a1_estimate := Fld.ext E13 F3_a1_estimate
        have F13_a1_user := Fld.ext E13 F3_a1_user
        have A13_a3 := Exa.ext E13 G1
        have F13_a3_coder := Fld.ext E13 G2
        have F13_a3_value := Fld.ext E13 G3
        have A13_t3 := OAr.ext E13 G4
        have z13 : n0 ≤ h13.size := Nat.le_trans z3 E13.1
        have O13 := Old.ext O3 E13
        refine w_virtual X13 hx hZ (argsL := [(.ref a13)]) (rest := []) (a := a3) 0 hown e13 (hw _ (List.mem_of_getElem? (i := 40) rfl)) (hw _ (List.mem_of_getElem? (i := 41) rfl)) (hw _ (List.mem_of_getElem? (i := 43) rfl)) (hw _ (List.mem_of_getElem? (i := 42) rfl)) (hw _ (List.mem_of_getElem? (i := 32) rfl)) (hw _ (List.mem_of_getElem? (i := 44) rfl)) (by decide) A13_a3 (rmEq l Z a0 hw [] a3 a13 t3 t13 (li [(114 : Int32), (117 : Int32), (110 : Int32), (32 : Int32), (116 : Int32), (105 : Int32), (109 : Int32), (101 : Int32)]) (li [(114 : Int32), (117 : Int32), (110 : Int32), (32 : Int32), (116 : Int32), (105 : Int32), (109 : Int32), (101 : Int32)]) 8 8 z h13 n0 z13 A13_a3 F13_a3_coder F13_a3_value A13_t3 F13_E F13_C F13_V F13_A (Sta.ext O13.2 S0) hz 1 (Or.inr rfl) (fun _ => rfl) (by decide)) (by decide) (by decide) (by rw [hml]; rfl) (lenOf pd_4 rfl) rfl (Nat.le_refl _) (hb hby at_98) (pc' := 101) rfl (by decide) (by decide) ?_
        rintro _ T14 L14 X14 ⟨rfl, N14, e14⟩
        replace X14 : Stand p l e room_1 (s.setVm vm13) m args below meth c T14 (((locs ++ L2) ++ L3) ++ L14) 5 142 := X14
        have M14 := Fr.app M3 N14
        dsimp only [Option.toList, List.cons_append, List.nil_append]
        refine w_ifNo X14 hx (hb hby at_101) (z_feq (by decide : ¬ ((1 : Int32) = (0 : Int32)))).1 (pc' := 104) rfl ?_
        refine w_iload X14 hx (hb hby at_104) rfl (pc' := 106) rfl ?_
        obtain rfl : (1 : Int32) = r := Option.some.inj hr
        exact w_retN X14 S13 (by rw [e14]; exact (Nat.le_refl _)) hx hlk (t := .boolean) (by simp) hret (hb hby at_106) rfl ⟨rfl, M14⟩ (by decide) (by decide)
  · replace c1 : ¬ (x4 < (0 : Int64)) := c1
    replace c2 : (x6 < (1 : Int64)) := c2
    rw [if_neg c1, if_pos c2] at hr
    dsimp only [Option.toList, List.cons_append, List.nil_append]
    refine w_astore X3 hx (hb hby at_24) rfl #[.val (.long x0), .second, .val (.long x2), .second, .val (.long x4), .second, .val (.long x6), .second, .val (.long x8), .second, .val (.int x10), .val (.ref a1), .val (.ref a3), .unset, .unset, .unset] rfl (pc' := 26) rfl ?_
    refine w_lload X3 hx (hb hby at_26) rfl (pc' := 28) rfl ?_
    refine w_lconst X3 hx (hb hby at_28) (0 : Int64) rfl (pc' := 29) rfl ?_
    refine w_lcmp X3 hx (hb hby at_29) (pc' := 30) rfl ?_
    refine w_ifYes X3 hx (hb hby at_30) (l_flt c1).2 (pc' := 37) (by decide) (by decide) ?_
    refine w_iconst X3 hx (hb hby at_37) (0 : Int32) rfl (pc' := 38) rfl ?_
    refine w_istore X3 hx (hb hby at_38) #[.val (.long x0), .second, .val (.long x2), .second, .val (.long x4), .second, .val (.long x6), .second, .val (.long x8), .second, .val (.int x10), .val (.ref a1), .val (.ref a3), .val (.int (0 : Int32)), .unset, .unset] rfl (pc' := 40) rfl ?_
    refine w_lload X3 hx (hb hby at_40) rfl (pc' := 42) rfl ?_
    refine w_lconst X3 hx (hb hby at_42) (1 : Int64) rfl (pc' := 43) rfl ?_
    refine w_lcmp X3 hx (hb hby at_43) (pc' := 44) rfl ?_
    refine w_ifNo X3 hx (hb hby at_44) (l_tlt c2).2 (pc' := 47) rfl ?_
    refine w_iconst X3 hx (hb hby at_47) (1 : Int32) rfl (pc' := 48) rfl ?_
    refine w_goto X3 hx (hb hby at_48) (pc' := 52) (by decide) (by decide) ?_
    refine w_istore X3 hx (hb hby at_52) #[.val (.long x0), .second, .val (.long x2), .second, .val (.long x4), .second, .val (.long x6), .second, .val (.long x8), .second, .val (.int x10), .val (.ref a1), .val (.ref a3), .val (.int (0 : Int32)), .val (.int (1 : Int32)), .unset] rfl (pc' := 54) rfl ?_
    refine w_lload X3 hx (hb hby at_54) rfl (pc' := 56) rfl ?_
    refine w_lconst X3 hx (hb hby at_56) (0 : Int64) rfl (pc' := 57) rfl ?_
    refine w_lcmp X3 hx (hb hby at_57) (pc' := 58) rfl ?_
    by_cases hc15 : x8 < (0 : Int64)
    · rw [if_pos hc15] at hr
      refine w_ifNo X3 hx (hb hby at_58) (l_tlt hc15).2 (pc' := 61) rfl ?_
      refine w_iconst X3 hx (hb hby at_61) (1 : Int32) rfl (pc' := 62) rfl ?_
      refine w_goto X3 hx (hb hby at_62) (pc' := 66) (by decide) (by decide) ?_
      refine w_istore X3 hx (hb hby at_66) #[.val (.long x0), .second, .val (.long x2), .second, .val (.long x4), .second, .val (.long x6), .second, .val (.long x8), .second, .val (.int x10), .val (.ref a1), .val (.ref a3), .val (.int (0 : Int32)), .val (.int (1 : Int32)), .val (.int (1 : Int32))] rfl (pc' := 68) rfl ?_
      refine w_aload X3 hx (hb hby at_68) rfl rfl (pc' := 70) rfl ?_
      refine w_ifnonnullYes X3 hx (hb hby at_70) (pc' := 94) (by decide) (by decide) ?_
      refine w_aload X3 hx (hb hby at_94) rfl rfl (pc' := 96) rfl ?_
      refine w_ldcC X3 hx hZ hown (hw _ (List.mem_of_getElem? (i := 39) rfl)) (own_wS hw) (rfl : T3.heap = T3.heap) S3 (Nat.le_refl _) hEL (List.mem_of_getElem? (i := 3) rfl) C3.1 (vs := [Value.int (114 : Int32), Value.int (117 : Int32), Value.int (110 : Int32), Value.int (32 : Int32), Value.int (116 : Int32), Value.int (105 : Int32), Value.int (109 : Int32), Value.int (101 : Int32)]) (z := (8 : Int32)) ⟨by decide, by decide⟩ (by decide) rfl [(114 : Int32), (117 : Int32), (110 : Int32), (32 : Int32), (116 : Int32), (105 : Int32), (109 : Int32), (101 : Int32)] rfl (by decide) (hb hby at_96) 64 (by decide) (by decide) (by decide) (by decide) (pc' := 98) rfl ?_
      intro a16 t16 T16 h16 vm16 X16 e16 E16 S16 hZ hown C16 F16_E F16_C F16_V F16_A
      have A16_a1 := Exa.ext E16 A3_a1
      have F16_a1_number := Fld.ext E16 F3_a1_number
      have F16_a1_submit := Fld.ext E16 F3_a1_submit
      have F16_a1_runTime := Fld.ext E16 F3_a1_runTime
      have F16_a1_size := Fld.ext E16 F3_a1_size
      have F16_a1_estimate := Fld.ext E16 F3_a1_estimate
      have F16_a1_user := Fld.ext E16 F3_a1_user
      have A16_a3 := Exa.ext E16 G1
      have F16_a3_coder := Fld.ext E16 G2
      have F16_a3_value := Fld.ext E16 G3
      have A16_t3 := OAr.ext E16 G4
      have z16 : n0 ≤ h16.size := Nat.le_trans z3 E16.1
      have O16 := Old.ext O3 E16
      refine w_virtual X16 hx hZ (argsL := [(.ref a16)]) (rest := []) (a := a3) 0 hown e16 (hw _ (List.mem_of_getElem? (i := 40) rfl)) (hw _ (List.mem_of_getElem? (i := 41) rfl)) (hw _ (List.mem_of_getElem? (i := 43) rfl)) (hw _ (List.mem_of_getElem? (i := 42) rfl)) (hw _ (List.mem_of_getElem? (i := 32) rfl)) (hw _ (List.mem_of_getElem? (i := 44) rfl)) (by decide) A16_a3 (rmEq l Z a0 hw [] a3 a16 t3 t16 (li [(115 : Int32), (105 : Int32), (122 : Int32), (101 : Int32)]) (li [(114 : Int32), (117 : Int32), (110 : Int32), (32 : Int32), (116 : Int32), (105 : Int32), (109 : Int32), (101 : Int32)]) 4 8 z h16 n0 z16 A16_a3 F16_a3_coder F16_a3_value A16_t3 F16_E F16_C F16_V F16_A (Sta.ext O16.2 S0) hz 0 (Or.inl rfl) (fun q => absurd q (own_strne F16_a3_value F16_V A16_t3 F16_A (Or.inl (by decide)))) (by decide)) (by decide) (by decide) (by rw [hml]; rfl) (lenOf pd_4 rfl) rfl (Nat.le_refl _) (hb hby at_98) (pc' := 101) rfl (by decide) (by decide) ?_
      rintro _ T17 L17 X17 ⟨rfl, N17, e17⟩
      replace X17 : Stand p l e room_1 (s.setVm vm16) m args below meth c T17 (((locs ++ L2) ++ L3) ++ L17) 5 142 := X17
      have M17 := Fr.app M3 N17
      dsimp only [Option.toList, List.cons_append, List.nil_append]
      refine w_ifYes X17 hx (hb hby at_101) (z_teq (by decide : ((0 : Int32) = (0 : Int32)))).1 (pc' := 107) (by decide) (by decide) ?_
      refine w_aload X17 hx (hb hby at_107) rfl rfl (pc' := 109) rfl ?_
      refine w_ldcC X17 hx hZ hown (hw _ (List.mem_of_getElem? (i := 55) rfl)) (own_wS hw) e17 S16 (Nat.le_refl _) hEL (List.mem_of_getElem? (i := 4) rfl) C16.1 (vs := [Value.int (115 : Int32), Value.int (105 : Int32), Value.int (122 : Int32), Value.int (101 : Int32)]) (z := (4 : Int32)) ⟨by decide, by decide⟩ (by decide) rfl [(115 : Int32), (105 : Int32), (122 : Int32), (101 : Int32)] rfl (by decide) (hb hby at_109) 64 (by decide) (by decide) (by decide) (by decide) (pc' := 111) rfl ?_
      intro a18 t18 T18 h18 vm18 X18 e18 E18 S18 hZ hown C18 F18_E F18_C F18_V F18_A
      have A18_a1 := Exa.ext E18 A16_a1
      have F18_a1_number := Fld.ext E18 F16_a1_number
      have F18_a1_submit := Fld.ext E18 F16_a1_submit
      have F18_a1_runTime := Fld.ext E18 F16_a1_runTime
      have F18_a1_size := Fld.ext E18 F16_a1_size
      have F18_a1_estimate := Fld.ext E18 F16_a1_estimate
      have F18_a1_user := Fld.ext E18 F16_a1_user
      have A18_a3 := Exa.ext E18 A16_a3
      have F18_a3_coder := Fld.ext E18 F16_a3_coder
      have F18_a3_value := Fld.ext E18 F16_a3_value
      have A18_t3 := OAr.ext E18 A16_t3
      have A18_a16 := Exa.ext E18 F16_E
      have F18_a16_coder := Fld.ext E18 F16_C
      have F18_a16_value := Fld.ext E18 F16_V
      have A18_t16 := OAr.ext E18 F16_A
      have z18 : n0 ≤ h18.size := Nat.le_trans z16 E18.1
      have O18 := Old.ext O16 E18
      refine w_virtual X18 hx hZ (argsL := [(.ref a18)]) (rest := []) (a := a3) 0 hown e18 (hw _ (List.mem_of_getElem? (i := 40) rfl)) (hw _ (List.mem_of_getElem? (i := 41) rfl)) (hw _ (List.mem_of_getElem? (i := 43) rfl)) (hw _ (List.mem_of_getElem? (i := 42) rfl)) (hw _ (List.mem_of_getElem? (i := 32) rfl)) (hw _ (List.mem_of_getElem? (i := 44) rfl)) (by decide) A18_a3 (rmEq l Z a0 hw [] a3 a18 t3 t18 (li [(115 : Int32), (105 : Int32), (122 : Int32), (101 : Int32)]) (li [(115 : Int32), (105 : Int32), (122 : Int32), (101 : Int32)]) 4 4 z h18 n0 z18 A18_a3 F18_a3_coder F18_a3_value A18_t3 F18_E F18_C F18_V F18_A (Sta.ext O18.2 S0) hz 1 (Or.inr rfl) (fun _ => rfl) (by decide)) (by decide) (by decide) (by rw [hml]; rfl) (lenOf pd_4 rfl) rfl (Nat.le_refl _) (hb hby at_111) (pc' := 114) rfl (by decide) (by decide) ?_
      rintro _ T19 L19 X19 ⟨rfl, N19, e19⟩
      replace X19 : Stand p l e room_1 (s.setVm vm18) m args below meth c T19 ((((locs ++ L2) ++ L3) ++ L17) ++ L19) 7 210 := X19
      have M19 := Fr.app M17 N19
      dsimp only [Option.toList, List.cons_append, List.nil_append]
      refine w_ifNo X19 hx (hb hby at_114) (z_feq (by decide : ¬ ((1 : Int32) = (0 : Int32)))).1 (pc' := 117) rfl ?_
      refine w_iload X19 hx (hb hby at_117) rfl (pc' := 119) rfl ?_
      refine w_ifNo X19 hx (hb hby at_119) (z_teq (by decide : ((0 : Int32) = (0 : Int32)))).2 (pc' := 122) rfl ?_
      refine w_iload X19 hx (hb hby at_122) rfl (pc' := 124) rfl ?_
      refine w_ifNo X19 hx (hb hby at_124) (z_feq (by decide : ¬ ((1 : Int32) = (0 : Int32)))).1 (pc' := 127) rfl ?_
      refine w_iconst X19 hx (hb hby at_127) (1 : Int32) rfl (pc' := 128) rfl ?_
      refine w_goto X19 hx (hb hby at_128) (pc' := 132) (by decide) (by decide) ?_
      obtain rfl : (1 : Int32) = r := Option.some.inj hr
      exact w_retN X19 S18 (by rw [e19]; exact (Nat.le_refl _)) hx hlk (t := .boolean) (by simp) hret (hb hby at_132) rfl ⟨rfl, M19⟩ (by decide) (by decide)
    · rw [if_neg hc15] at hr
      refine w_ifYes X3 hx (hb hby at_58) (l_flt hc15).2 (pc' := 65) (by decide) (by decide) ?_
      refine w_iconst X3 hx (hb hby at_65) (0 : Int32) rfl (pc' := 66) rfl ?_
      refine w_istore X3 hx (hb hby at_66) #[.val (.long x0), .second, .val (.long x2), .second, .val (.long x4), .second, .val (.long x6), .second, .val (.long x8), .second, .val (.int x10), .val (.ref a1), .val (.ref a3), .val (.int (0 : Int32)), .val (.int (1 : Int32)), .val (.int (0 : Int32))] rfl (pc' := 68) rfl ?_
      refine w_aload X3 hx (hb hby at_68) rfl rfl (pc' := 70) rfl ?_
      refine w_ifnonnullYes X3 hx (hb hby at_70) (pc' := 94) (by decide) (by decide) ?_
      refine w_aload X3 hx (hb hby at_94) rfl rfl (pc' := 96) rfl ?_
      refine w_ldcC X3 hx hZ hown (hw _ (List.mem_of_getElem? (i := 39) rfl)) (own_wS hw) (rfl : T3.heap = T3.heap) S3 (Nat.le_refl _) hEL (List.mem_of_getElem? (i := 3) rfl) C3.1 (vs := [Value.int (114 : Int32), Value.int (117 : Int32), Value.int (110 : Int32), Value.int (32 : Int32), Value.int (116 : Int32), Value.int (105 : Int32), Value.int (109 : Int32), Value.int (101 : Int32)]) (z := (8 : Int32)) ⟨by decide, by decide⟩ (by decide) rfl [(114 : Int32), (117 : Int32), (110 : Int32), (32 : Int32), (116 : Int32), (105 : Int32), (109 : Int32), (101 : Int32)] rfl (by decide) (hb hby at_96) 64 (by decide) (by decide) (by decide) (by decide) (pc' := 98) rfl ?_
      intro a20 t20 T20 h20 vm20 X20 e20 E20 S20 hZ hown C20 F20_E F20_C F20_V F20_A
      have A20_a1 := Exa.ext E20 A3_a1
      have F20_a1_number := Fld.ext E20 F3_a1_number
      have F20_a1_submit := Fld.ext E20 F3_a1_submit
      have F20_a1_runTime := Fld.ext E20 F3_a1_runTime
      have F20_a1_size := Fld.ext E20 F3_a1_size
      have F20_a1_estimate := Fld.ext E20 F3_a1_estimate
      have F20_a1_user := Fld.ext E20 F3_a1_user
      have A20_a3 := Exa.ext E20 G1
      have F20_a3_coder := Fld.ext E20 G2
      have F20_a3_value := Fld.ext E20 G3
      have A20_t3 := OAr.ext E20 G4
      have z20 : n0 ≤ h20.size := Nat.le_trans z3 E20.1
      have O20 := Old.ext O3 E20
      refine w_virtual X20 hx hZ (argsL := [(.ref a20)]) (rest := []) (a := a3) 0 hown e20 (hw _ (List.mem_of_getElem? (i := 40) rfl)) (hw _ (List.mem_of_getElem? (i := 41) rfl)) (hw _ (List.mem_of_getElem? (i := 43) rfl)) (hw _ (List.mem_of_getElem? (i := 42) rfl)) (hw _ (List.mem_of_getElem? (i := 32) rfl)) (hw _ (List.mem_of_getElem? (i := 44) rfl)) (by decide) A20_a3 (rmEq l Z a0 hw [] a3 a20 t3 t20 (li [(115 : Int32), (105 : Int32), (122 : Int32), (101 : Int32)]) (li [(114 : Int32), (117 : Int32), (110 : Int32), (32 : Int32), (116 : Int32), (105 : Int32), (109 : Int32), (101 : Int32)]) 4 8 z h20 n0 z20 A20_a3 F20_a3_coder F20_a3_value A20_t3 F20_E F20_C F20_V F20_A (Sta.ext O20.2 S0) hz 0 (Or.inl rfl) (fun q => absurd q (own_strne F20_a3_value F20_V A20_t3 F20_A (Or.inl (by decide)))) (by decide)) (by decide) (by decide) (by rw [hml]; rfl) (lenOf pd_4 rfl) rfl (Nat.le_refl _) (hb hby at_98) (pc' := 101) rfl (by decide) (by decide) ?_
      rintro _ T21 L21 X21 ⟨rfl, N21, e21⟩
      replace X21 : Stand p l e room_1 (s.setVm vm20) m args below meth c T21 (((locs ++ L2) ++ L3) ++ L21) 5 142 := X21
      have M21 := Fr.app M3 N21
      dsimp only [Option.toList, List.cons_append, List.nil_append]
      refine w_ifYes X21 hx (hb hby at_101) (z_teq (by decide : ((0 : Int32) = (0 : Int32)))).1 (pc' := 107) (by decide) (by decide) ?_
      refine w_aload X21 hx (hb hby at_107) rfl rfl (pc' := 109) rfl ?_
      refine w_ldcC X21 hx hZ hown (hw _ (List.mem_of_getElem? (i := 55) rfl)) (own_wS hw) e21 S20 (Nat.le_refl _) hEL (List.mem_of_getElem? (i := 4) rfl) C20.1 (vs := [Value.int (115 : Int32), Value.int (105 : Int32), Value.int (122 : Int32), Value.int (101 : Int32)]) (z := (4 : Int32)) ⟨by decide, by decide⟩ (by decide) rfl [(115 : Int32), (105 : Int32), (122 : Int32), (101 : Int32)] rfl (by decide) (hb hby at_109) 64 (by decide) (by decide) (by decide) (by decide) (pc' := 111) rfl ?_
      intro a22 t22 T22 h22 vm22 X22 e22 E22 S22 hZ hown C22 F22_E F22_C F22_V F22_A
      have A22_a1 := Exa.ext E22 A20_a1
      have F22_a1_number := Fld.ext E22 F20_a1_number
      have F22_a1_submit := Fld.ext E22 F20_a1_submit
      have F22_a1_runTime := Fld.ext E22 F20_a1_runTime
      have F22_a1_size := Fld.ext E22 F20_a1_size
      have F22_a1_estimate := Fld.ext E22 F20_a1_estimate
      have F22_a1_user := Fld.ext E22 F20_a1_user
      have A22_a3 := Exa.ext E22 A20_a3
      have F22_a3_coder := Fld.ext E22 F20_a3_coder
      have F22_a3_value := Fld.ext E22 F20_a3_value
      have A22_t3 := OAr.ext E22 A20_t3
      have A22_a20 := Exa.ext E22 F20_E
      have F22_a20_coder := Fld.ext E22 F20_C
      have F22_a20_value := Fld.ext E22 F20_V
      have A22_t20 := OAr.ext E22 F20_A
      have z22 : n0 ≤ h22.size := Nat.le_trans z20 E22.1
      have O22 := Old.ext O20 E22
      refine w_virtual X22 hx hZ (argsL := [(.ref a22)]) (rest := []) (a := a3) 0 hown e22 (hw _ (List.mem_of_getElem? (i := 40) rfl)) (hw _ (List.mem_of_getElem? (i := 41) rfl)) (hw _ (List.mem_of_getElem? (i := 43) rfl)) (hw _ (List.mem_of_getElem? (i := 42) rfl)) (hw _ (List.mem_of_getElem? (i := 32) rfl)) (hw _ (List.mem_of_getElem? (i := 44) rfl)) (by decide) A22_a3 (rmEq l Z a0 hw [] a3 a22 t3 t22 (li [(115 : Int32), (105 : Int32), (122 : Int32), (101 : Int32)]) (li [(115 : Int32), (105 : Int32), (122 : Int32), (101 : Int32)]) 4 4 z h22 n0 z22 A22_a3 F22_a3_coder F22_a3_value A22_t3 F22_E F22_C F22_V F22_A (Sta.ext O22.2 S0) hz 1 (Or.inr rfl) (fun _ => rfl) (by decide)) (by decide) (by decide) (by rw [hml]; rfl) (lenOf pd_4 rfl) rfl (Nat.le_refl _) (hb hby at_111) (pc' := 114) rfl (by decide) (by decide) ?_
      rintro _ T23 L23 X23 ⟨rfl, N23, e23⟩
      replace X23 : Stand p l e room_1 (s.setVm vm22) m args below meth c T23 ((((locs ++ L2) ++ L3) ++ L21) ++ L23) 7 210 := X23
      have M23 := Fr.app M21 N23
      dsimp only [Option.toList, List.cons_append, List.nil_append]
      refine w_ifNo X23 hx (hb hby at_114) (z_feq (by decide : ¬ ((1 : Int32) = (0 : Int32)))).1 (pc' := 117) rfl ?_
      refine w_iload X23 hx (hb hby at_117) rfl (pc' := 119) rfl ?_
      refine w_ifNo X23 hx (hb hby at_119) (z_teq (by decide : ((0 : Int32) = (0 : Int32)))).2 (pc' := 122) rfl ?_
      refine w_iload X23 hx (hb hby at_122) rfl (pc' := 124) rfl ?_
      refine w_ifNo X23 hx (hb hby at_124) (z_feq (by decide : ¬ ((1 : Int32) = (0 : Int32)))).1 (pc' := 127) rfl ?_
      refine w_iconst X23 hx (hb hby at_127) (1 : Int32) rfl (pc' := 128) rfl ?_
      refine w_goto X23 hx (hb hby at_128) (pc' := 132) (by decide) (by decide) ?_
      obtain rfl : (1 : Int32) = r := Option.some.inj hr
      exact w_retN X23 S22 (by rw [e23]; exact (Nat.le_refl _)) hx hlk (t := .boolean) (by simp) hret (hb hby at_132) rfl ⟨rfl, M23⟩ (by decide) (by decide)
  · replace c1 : ¬ (x4 < (0 : Int64)) := c1
    replace c2 : ¬ (x6 < (1 : Int64)) := c2
    replace c3 : (x8 < (0 : Int64)) := c3
    rw [if_neg c1, if_neg c2, if_pos c3] at hr
    dsimp only [Option.toList, List.cons_append, List.nil_append]
    refine w_astore X3 hx (hb hby at_24) rfl #[.val (.long x0), .second, .val (.long x2), .second, .val (.long x4), .second, .val (.long x6), .second, .val (.long x8), .second, .val (.int x10), .val (.ref a1), .val (.ref a3), .unset, .unset, .unset] rfl (pc' := 26) rfl ?_
    refine w_lload X3 hx (hb hby at_26) rfl (pc' := 28) rfl ?_
    refine w_lconst X3 hx (hb hby at_28) (0 : Int64) rfl (pc' := 29) rfl ?_
    refine w_lcmp X3 hx (hb hby at_29) (pc' := 30) rfl ?_
    refine w_ifYes X3 hx (hb hby at_30) (l_flt c1).2 (pc' := 37) (by decide) (by decide) ?_
    refine w_iconst X3 hx (hb hby at_37) (0 : Int32) rfl (pc' := 38) rfl ?_
    refine w_istore X3 hx (hb hby at_38) #[.val (.long x0), .second, .val (.long x2), .second, .val (.long x4), .second, .val (.long x6), .second, .val (.long x8), .second, .val (.int x10), .val (.ref a1), .val (.ref a3), .val (.int (0 : Int32)), .unset, .unset] rfl (pc' := 40) rfl ?_
    refine w_lload X3 hx (hb hby at_40) rfl (pc' := 42) rfl ?_
    refine w_lconst X3 hx (hb hby at_42) (1 : Int64) rfl (pc' := 43) rfl ?_
    refine w_lcmp X3 hx (hb hby at_43) (pc' := 44) rfl ?_
    refine w_ifYes X3 hx (hb hby at_44) (l_flt c2).2 (pc' := 51) (by decide) (by decide) ?_
    refine w_iconst X3 hx (hb hby at_51) (0 : Int32) rfl (pc' := 52) rfl ?_
    refine w_istore X3 hx (hb hby at_52) #[.val (.long x0), .second, .val (.long x2), .second, .val (.long x4), .second, .val (.long x6), .second, .val (.long x8), .second, .val (.int x10), .val (.ref a1), .val (.ref a3), .val (.int (0 : Int32)), .val (.int (0 : Int32)), .unset] rfl (pc' := 54) rfl ?_
    refine w_lload X3 hx (hb hby at_54) rfl (pc' := 56) rfl ?_
    refine w_lconst X3 hx (hb hby at_56) (0 : Int64) rfl (pc' := 57) rfl ?_
    refine w_lcmp X3 hx (hb hby at_57) (pc' := 58) rfl ?_
    refine w_ifNo X3 hx (hb hby at_58) (l_tlt c3).2 (pc' := 61) rfl ?_
    refine w_iconst X3 hx (hb hby at_61) (1 : Int32) rfl (pc' := 62) rfl ?_
    refine w_goto X3 hx (hb hby at_62) (pc' := 66) (by decide) (by decide) ?_
    refine w_istore X3 hx (hb hby at_66) #[.val (.long x0), .second, .val (.long x2), .second, .val (.long x4), .second, .val (.long x6), .second, .val (.long x8), .second, .val (.int x10), .val (.ref a1), .val (.ref a3), .val (.int (0 : Int32)), .val (.int (0 : Int32)), .val (.int (1 : Int32))] rfl (pc' := 68) rfl ?_
    refine w_aload X3 hx (hb hby at_68) rfl rfl (pc' := 70) rfl ?_
    refine w_ifnonnullYes X3 hx (hb hby at_70) (pc' := 94) (by decide) (by decide) ?_
    refine w_aload X3 hx (hb hby at_94) rfl rfl (pc' := 96) rfl ?_
    refine w_ldcC X3 hx hZ hown (hw _ (List.mem_of_getElem? (i := 39) rfl)) (own_wS hw) (rfl : T3.heap = T3.heap) S3 (Nat.le_refl _) hEL (List.mem_of_getElem? (i := 3) rfl) C3.1 (vs := [Value.int (114 : Int32), Value.int (117 : Int32), Value.int (110 : Int32), Value.int (32 : Int32), Value.int (116 : Int32), Value.int (105 : Int32), Value.int (109 : Int32), Value.int (101 : Int32)]) (z := (8 : Int32)) ⟨by decide, by decide⟩ (by decide) rfl [(114 : Int32), (117 : Int32), (110 : Int32), (32 : Int32), (116 : Int32), (105 : Int32), (109 : Int32), (101 : Int32)] rfl (by decide) (hb hby at_96) 64 (by decide) (by decide) (by decide) (by decide) (pc' := 98) rfl ?_
    intro a24 t24 T24 h24 vm24 X24 e24 E24 S24 hZ hown C24 F24_E F24_C F24_V F24_A
    have A24_a1 := Exa.ext E24 A3_a1
    have F24_a1_number := Fld.ext E24 F3_a1_number
    have F24_a1_submit := Fld.ext E24 F3_a1_submit
    have F24_a1_runTime := Fld.ext E24 F3_a1_runTime
    have F24_a1_size := Fld.ext E24 F3_a1_size
    have F24_a1_estimate := Fld.ext E24 F3_a1_estimate
    have F24_a1_user := Fld.ext E24 F3_a1_user
    have A24_a3 := Exa.ext E24 G1
    have F24_a3_coder := Fld.ext E24 G2
    have F24_a3_value := Fld.ext E24 G3
    have A24_t3 := OAr.ext E24 G4
    have z24 : n0 ≤ h24.size := Nat.le_trans z3 E24.1
    have O24 := Old.ext O3 E24
    refine w_virtual X24 hx hZ (argsL := [(.ref a24)]) (rest := []) (a := a3) 0 hown e24 (hw _ (List.mem_of_getElem? (i := 40) rfl)) (hw _ (List.mem_of_getElem? (i := 41) rfl)) (hw _ (List.mem_of_getElem? (i := 43) rfl)) (hw _ (List.mem_of_getElem? (i := 42) rfl)) (hw _ (List.mem_of_getElem? (i := 32) rfl)) (hw _ (List.mem_of_getElem? (i := 44) rfl)) (by decide) A24_a3 (rmEq l Z a0 hw [] a3 a24 t3 t24 (li [(101 : Int32), (115 : Int32), (116 : Int32), (105 : Int32), (109 : Int32), (97 : Int32), (116 : Int32), (101 : Int32)]) (li [(114 : Int32), (117 : Int32), (110 : Int32), (32 : Int32), (116 : Int32), (105 : Int32), (109 : Int32), (101 : Int32)]) 8 8 z h24 n0 z24 A24_a3 F24_a3_coder F24_a3_value A24_t3 F24_E F24_C F24_V F24_A (Sta.ext O24.2 S0) hz 0 (Or.inl rfl) (fun q => absurd q (own_strne F24_a3_value F24_V A24_t3 F24_A (Or.inr ⟨by decide, by decide⟩))) (by decide)) (by decide) (by decide) (by rw [hml]; rfl) (lenOf pd_4 rfl) rfl (Nat.le_refl _) (hb hby at_98) (pc' := 101) rfl (by decide) (by decide) ?_
    rintro _ T25 L25 X25 ⟨rfl, N25, e25⟩
    replace X25 : Stand p l e room_1 (s.setVm vm24) m args below meth c T25 (((locs ++ L2) ++ L3) ++ L25) 5 142 := X25
    have M25 := Fr.app M3 N25
    dsimp only [Option.toList, List.cons_append, List.nil_append]
    refine w_ifYes X25 hx (hb hby at_101) (z_teq (by decide : ((0 : Int32) = (0 : Int32)))).1 (pc' := 107) (by decide) (by decide) ?_
    refine w_aload X25 hx (hb hby at_107) rfl rfl (pc' := 109) rfl ?_
    refine w_ldcC X25 hx hZ hown (hw _ (List.mem_of_getElem? (i := 55) rfl)) (own_wS hw) e25 S24 (Nat.le_refl _) hEL (List.mem_of_getElem? (i := 4) rfl) C24.1 (vs := [Value.int (115 : Int32), Value.int (105 : Int32), Value.int (122 : Int32), Value.int (101 : Int32)]) (z := (4 : Int32)) ⟨by decide, by decide⟩ (by decide) rfl [(115 : Int32), (105 : Int32), (122 : Int32), (101 : Int32)] rfl (by decide) (hb hby at_109) 64 (by decide) (by decide) (by decide) (by decide) (pc' := 111) rfl ?_
    intro a26 t26 T26 h26 vm26 X26 e26 E26 S26 hZ hown C26 F26_E F26_C F26_V F26_A
    have A26_a1 := Exa.ext E26 A24_a1
    have F26_a1_number := Fld.ext E26 F24_a1_number
    have F26_a1_submit := Fld.ext E26 F24_a1_submit
    have F26_a1_runTime := Fld.ext E26 F24_a1_runTime
    have F26_a1_size := Fld.ext E26 F24_a1_size
    have F26_a1_estimate := Fld.ext E26 F24_a1_estimate
    have F26_a1_user := Fld.ext E26 F24_a1_user
    have A26_a3 := Exa.ext E26 A24_a3
    have F26_a3_coder := Fld.ext E26 F24_a3_coder
    have F26_a3_value := Fld.ext E26 F24_a3_value
    have A26_t3 := OAr.ext E26 A24_t3
    have A26_a24 := Exa.ext E26 F24_E
    have F26_a24_coder := Fld.ext E26 F24_C
    have F26_a24_value := Fld.ext E26 F24_V
    have A26_t24 := OAr.ext E26 F24_A
    have z26 : n0 ≤ h26.size := Nat.le_trans z24 E26.1
    have O26 := Old.ext O24 E26
    refine w_virtual X26 hx hZ (argsL := [(.ref a26)]) (rest := []) (a := a3) 0 hown e26 (hw _ (List.mem_of_getElem? (i := 40) rfl)) (hw _ (List.mem_of_getElem? (i := 41) rfl)) (hw _ (List.mem_of_getElem? (i := 43) rfl)) (hw _ (List.mem_of_getElem? (i := 42) rfl)) (hw _ (List.mem_of_getElem? (i := 32) rfl)) (hw _ (List.mem_of_getElem? (i := 44) rfl)) (by decide) A26_a3 (rmEq l Z a0 hw [] a3 a26 t3 t26 (li [(101 : Int32), (115 : Int32), (116 : Int32), (105 : Int32), (109 : Int32), (97 : Int32), (116 : Int32), (101 : Int32)]) (li [(115 : Int32), (105 : Int32), (122 : Int32), (101 : Int32)]) 8 4 z h26 n0 z26 A26_a3 F26_a3_coder F26_a3_value A26_t3 F26_E F26_C F26_V F26_A (Sta.ext O26.2 S0) hz 0 (Or.inl rfl) (fun q => absurd q (own_strne F26_a3_value F26_V A26_t3 F26_A (Or.inl (by decide)))) (by decide)) (by decide) (by decide) (by rw [hml]; rfl) (lenOf pd_4 rfl) rfl (Nat.le_refl _) (hb hby at_111) (pc' := 114) rfl (by decide) (by decide) ?_
    rintro _ T27 L27 X27 ⟨rfl, N27, e27⟩
    replace X27 : Stand p l e room_1 (s.setVm vm26) m args below meth c T27 ((((locs ++ L2) ++ L3) ++ L25) ++ L27) 7 210 := X27
    have M27 := Fr.app M25 N27
    dsimp only [Option.toList, List.cons_append, List.nil_append]
    refine w_ifYes X27 hx (hb hby at_114) (z_teq (by decide : ((0 : Int32) = (0 : Int32)))).1 (pc' := 133) (by decide) (by decide) ?_
    refine w_aload X27 hx (hb hby at_133) rfl rfl (pc' := 135) rfl ?_
    refine w_ldcC X27 hx hZ hown (hw _ (List.mem_of_getElem? (i := 56) rfl)) (own_wS hw) e27 S26 (Nat.le_refl _) hEL (List.mem_of_getElem? (i := 5) rfl) C26.1 (vs := [Value.int (101 : Int32), Value.int (115 : Int32), Value.int (116 : Int32), Value.int (105 : Int32), Value.int (109 : Int32), Value.int (97 : Int32), Value.int (116 : Int32), Value.int (101 : Int32)]) (z := (8 : Int32)) ⟨by decide, by decide⟩ (by decide) rfl [(101 : Int32), (115 : Int32), (116 : Int32), (105 : Int32), (109 : Int32), (97 : Int32), (116 : Int32), (101 : Int32)] rfl (by decide) (hb hby at_135) 64 (by decide) (by decide) (by decide) (by decide) (pc' := 137) rfl ?_
    intro a28 t28 T28 h28 vm28 X28 e28 E28 S28 hZ hown C28 F28_E F28_C F28_V F28_A
    have A28_a1 := Exa.ext E28 A26_a1
    have F28_a1_number := Fld.ext E28 F26_a1_number
    have F28_a1_submit := Fld.ext E28 F26_a1_submit
    have F28_a1_runTime := Fld.ext E28 F26_a1_runTime
    have F28_a1_size := Fld.ext E28 F26_a1_size
    have F28_a1_estimate := Fld.ext E28 F26_a1_estimate
    have F28_a1_user := Fld.ext E28 F26_a1_user
    have A28_a3 := Exa.ext E28 A26_a3
    have F28_a3_coder := Fld.ext E28 F26_a3_coder
    have F28_a3_value := Fld.ext E28 F26_a3_value
    have A28_t3 := OAr.ext E28 A26_t3
    have A28_a24 := Exa.ext E28 A26_a24
    have F28_a24_coder := Fld.ext E28 F26_a24_coder
    have F28_a24_value := Fld.ext E28 F26_a24_value
    have A28_t24 := OAr.ext E28 A26_t24
    have A28_a26 := Exa.ext E28 F26_E
    have F28_a26_coder := Fld.ext E28 F26_C
    have F28_a26_value := Fld.ext E28 F26_V
    have A28_t26 := OAr.ext E28 F26_A
    have z28 : n0 ≤ h28.size := Nat.le_trans z26 E28.1
    have O28 := Old.ext O26 E28
    refine w_virtual X28 hx hZ (argsL := [(.ref a28)]) (rest := []) (a := a3) 0 hown e28 (hw _ (List.mem_of_getElem? (i := 40) rfl)) (hw _ (List.mem_of_getElem? (i := 41) rfl)) (hw _ (List.mem_of_getElem? (i := 43) rfl)) (hw _ (List.mem_of_getElem? (i := 42) rfl)) (hw _ (List.mem_of_getElem? (i := 32) rfl)) (hw _ (List.mem_of_getElem? (i := 44) rfl)) (by decide) A28_a3 (rmEq l Z a0 hw [] a3 a28 t3 t28 (li [(101 : Int32), (115 : Int32), (116 : Int32), (105 : Int32), (109 : Int32), (97 : Int32), (116 : Int32), (101 : Int32)]) (li [(101 : Int32), (115 : Int32), (116 : Int32), (105 : Int32), (109 : Int32), (97 : Int32), (116 : Int32), (101 : Int32)]) 8 8 z h28 n0 z28 A28_a3 F28_a3_coder F28_a3_value A28_t3 F28_E F28_C F28_V F28_A (Sta.ext O28.2 S0) hz 1 (Or.inr rfl) (fun _ => rfl) (by decide)) (by decide) (by decide) (by rw [hml]; rfl) (lenOf pd_4 rfl) rfl (Nat.le_refl _) (hb hby at_137) (pc' := 140) rfl (by decide) (by decide) ?_
    rintro _ T29 L29 X29 ⟨rfl, N29, e29⟩
    replace X29 : Stand p l e room_1 (s.setVm vm28) m args below meth c T29 (((((locs ++ L2) ++ L3) ++ L25) ++ L27) ++ L29) 9 278 := X29
    have M29 := Fr.app M27 N29
    dsimp only [Option.toList, List.cons_append, List.nil_append]
    refine w_ifNo X29 hx (hb hby at_140) (z_feq (by decide : ¬ ((1 : Int32) = (0 : Int32)))).1 (pc' := 143) rfl ?_
    refine w_iload X29 hx (hb hby at_143) rfl (pc' := 145) rfl ?_
    refine w_ifNo X29 hx (hb hby at_145) (z_teq (by decide : ((0 : Int32) = (0 : Int32)))).2 (pc' := 148) rfl ?_
    refine w_iload X29 hx (hb hby at_148) rfl (pc' := 150) rfl ?_
    refine w_ifNo X29 hx (hb hby at_150) (z_teq (by decide : ((0 : Int32) = (0 : Int32)))).2 (pc' := 153) rfl ?_
    refine w_iload X29 hx (hb hby at_153) rfl (pc' := 155) rfl ?_
    refine w_ifNo X29 hx (hb hby at_155) (z_feq (by decide : ¬ ((1 : Int32) = (0 : Int32)))).1 (pc' := 158) rfl ?_
    refine w_iconst X29 hx (hb hby at_158) (1 : Int32) rfl (pc' := 159) rfl ?_
    refine w_goto X29 hx (hb hby at_159) (pc' := 163) (by decide) (by decide) ?_
    obtain rfl : (1 : Int32) = r := Option.some.inj hr
    exact w_retN X29 S28 (by rw [e29]; exact (Nat.le_refl _)) hx hlk (t := .boolean) (by simp) hret (hb hby at_163) rfl ⟨rfl, M29⟩ (by decide) (by decide)
  · replace c1 : ¬ (x4 < (0 : Int64)) := c1
    replace c2 : ¬ (x6 < (1 : Int64)) := c2
    replace c3 : ¬ (x8 < (0 : Int64)) := c3
    rw [if_neg c1, if_neg c2, if_neg c3] at hr
    dsimp only [Option.toList, List.cons_append, List.nil_append]
    refine w_astore X3 hx (hb hby at_24) rfl #[.val (.long x0), .second, .val (.long x2), .second, .val (.long x4), .second, .val (.long x6), .second, .val (.long x8), .second, .val (.int x10), .val (.ref a1), .val .null, .unset, .unset, .unset] rfl (pc' := 26) rfl ?_
    refine w_lload X3 hx (hb hby at_26) rfl (pc' := 28) rfl ?_
    refine w_lconst X3 hx (hb hby at_28) (0 : Int64) rfl (pc' := 29) rfl ?_
    refine w_lcmp X3 hx (hb hby at_29) (pc' := 30) rfl ?_
    refine w_ifYes X3 hx (hb hby at_30) (l_flt c1).2 (pc' := 37) (by decide) (by decide) ?_
    refine w_iconst X3 hx (hb hby at_37) (0 : Int32) rfl (pc' := 38) rfl ?_
    refine w_istore X3 hx (hb hby at_38) #[.val (.long x0), .second, .val (.long x2), .second, .val (.long x4), .second, .val (.long x6), .second, .val (.long x8), .second, .val (.int x10), .val (.ref a1), .val .null, .val (.int (0 : Int32)), .unset, .unset] rfl (pc' := 40) rfl ?_
    refine w_lload X3 hx (hb hby at_40) rfl (pc' := 42) rfl ?_
    refine w_lconst X3 hx (hb hby at_42) (1 : Int64) rfl (pc' := 43) rfl ?_
    refine w_lcmp X3 hx (hb hby at_43) (pc' := 44) rfl ?_
    refine w_ifYes X3 hx (hb hby at_44) (l_flt c2).2 (pc' := 51) (by decide) (by decide) ?_
    refine w_iconst X3 hx (hb hby at_51) (0 : Int32) rfl (pc' := 52) rfl ?_
    refine w_istore X3 hx (hb hby at_52) #[.val (.long x0), .second, .val (.long x2), .second, .val (.long x4), .second, .val (.long x6), .second, .val (.long x8), .second, .val (.int x10), .val (.ref a1), .val .null, .val (.int (0 : Int32)), .val (.int (0 : Int32)), .unset] rfl (pc' := 54) rfl ?_
    refine w_lload X3 hx (hb hby at_54) rfl (pc' := 56) rfl ?_
    refine w_lconst X3 hx (hb hby at_56) (0 : Int64) rfl (pc' := 57) rfl ?_
    refine w_lcmp X3 hx (hb hby at_57) (pc' := 58) rfl ?_
    refine w_ifYes X3 hx (hb hby at_58) (l_flt c3).2 (pc' := 65) (by decide) (by decide) ?_
    refine w_iconst X3 hx (hb hby at_65) (0 : Int32) rfl (pc' := 66) rfl ?_
    refine w_istore X3 hx (hb hby at_66) #[.val (.long x0), .second, .val (.long x2), .second, .val (.long x4), .second, .val (.long x6), .second, .val (.long x8), .second, .val (.int x10), .val (.ref a1), .val .null, .val (.int (0 : Int32)), .val (.int (0 : Int32)), .val (.int (0 : Int32))] rfl (pc' := 68) rfl ?_
    refine w_aload X3 hx (hb hby at_68) rfl rfl (pc' := 70) rfl ?_
    refine w_ifnonnullNo X3 hx (hb hby at_70) (pc' := 73) rfl ?_
    refine w_iload X3 hx (hb hby at_73) rfl (pc' := 75) rfl ?_
    refine w_ifNo X3 hx (hb hby at_75) (z_teq (by decide : ((0 : Int32) = (0 : Int32)))).2 (pc' := 78) rfl ?_
    refine w_iload X3 hx (hb hby at_78) rfl (pc' := 80) rfl ?_
    refine w_ifNo X3 hx (hb hby at_80) (z_teq (by decide : ((0 : Int32) = (0 : Int32)))).2 (pc' := 83) rfl ?_
    refine w_iload X3 hx (hb hby at_83) rfl (pc' := 85) rfl ?_
    refine w_ifNo X3 hx (hb hby at_85) (z_teq (by decide : ((0 : Int32) = (0 : Int32)))).2 (pc' := 88) rfl ?_
    refine w_iconst X3 hx (hb hby at_88) (1 : Int32) rfl (pc' := 89) rfl ?_
    refine w_goto X3 hx (hb hby at_89) (pc' := 93) (by decide) (by decide) ?_
    obtain rfl : (1 : Int32) = r := Option.some.inj hr
    exact w_retN X3 S3 (by rw [(rfl : T3.heap = T3.heap)]; exact (Nat.le_refl _)) hx hlk (t := .boolean) (by simp) hret (hb hby at_93) rfl ⟨rfl, M3⟩ (by decide) (by decide)
theorem law_true (x0 x2 x4 x6 x8 : Int64) (x10 : Int32) : f0_0 x0 x2 x4 x6 x8 x10 = some 1 := by
  unfold f0_0
  repeat' split
  all_goals rfl
theorem pn_0 : plainName "com/example/gangway/gangway/model/JobUnknownValuePinLaw" = true := by first | (simp [plainName, overriddenIn]; done) | decide +kernel
theorem ef_0 (m : MethodId) (x0 : Int64) (x2 : Int64) (x4 : Int64) (x6 : Int64) (x8 : Int64) (x10 : Int32) : entryFrame m #[(.long x0), (.long x2), (.long x4), (.long x6), (.long x8), (.int x10)] maxLocals = (mkF m 0 #[.val (.long x0), .second, .val (.long x2), .second, .val (.long x4), .second, .val (.long x6), .second, .val (.long x8), .second, .val (.int x10), .unset, .unset, .unset, .unset, .unset] []) := by first | (simp [entryFrame, mkF, argsToLocals, Value.category, maxLocals]; done) | rfl
def Qd0 (Z : State) (h0 : Heap) (n0 : Nat) (x0 : Int64) (x2 : Int64) (x4 : Int64) (x6 : Int64) (x8 : Int64) (x10 : Int32) : Option Value → Heap → List Loc → Prop := (fun v h L => v = (some (.int (1 : Int32))) ∧ Fr n0 L)
set_option maxRecDepth 65536 in
set_option maxHeartbeats 40000000 in
theorem rm0 (l : Launch) (Z : State) (a0 : Array Value) (hw : ∀ d ∈ tables_1, d.before a0 Z = true) (ws : List Jvm.Cond) (x0 : Int64) (x2 : Int64) (x4 : Int64) (x6 : Int64) (x8 : Int64) (x10 : Int32) (h0 : Heap) (n0 : Nat) (Z0 : n0 ≤ h0.size) (hEL : EW Z a0 consts_1) (O : Old Z n0 h0) (z : Int32) (S0 : Sta Z Z.heap "java/lang/String" "COMPACT_STRINGS" "Z" (.int z)) (hz : ¬ z = 0) :
    MetFree l x (head1 (Jvm.Cond.code x code maxLocals ret :: ws) room_1) (fun a U => a = #[(.long x0), (.long x2), (.long x4), (.long x6), (.long x8), (.int x10)] ∧ Z.Warmed39 U.vm ∧ U.heap = h0 ∧ CHv Z consts_1 U.vm h0) (fun _ _ _ _ _ => True) (fun _ U o U' => ∃ v L, o = .returned v ∧ (Qd0 Z h0 n0 x0 x2 x4 x6 x8 x10) v U'.heap L ∧ ReturnedEndW U o U' L room_1.cells room_1.slots) := by
  refine MetFree.of_bodySF (plainFor_of_name pn_0) hisR ?_
  intro p e s m args below meth c s₁ Bd hml0 hP hK
  obtain ⟨rfl, hZ, hh, hCH⟩ := hP
  have e0 : s₁.heap = h0 := by rw [← hh, Bd.state]; rfl
  exact OGW.cast (ef_0 m x0 x2 x4 x6 x8 x10) (b0_0 Bd.exec hZ hw Bd.bytes hml0 (findClass_of_methodNamed Bd.named) (name_of_methodNamed Bd.named Bd.method).1 Bd.returns Bd.notSynchronized x0 x2 x4 x6 x8 x10 (1 : Int32) (Stand.of_body Bd) e0 (Fr.nil n0) Z0 ((State.WarmedH.refl s).since 0) (Nat.zero_le _) hEL hCH O z S0 hz (law_true _ _ _ _ _ _))
set_option maxRecDepth 65536 in
set_option maxHeartbeats 40000000 in
theorem comes_1 {Post : Tables → Env → Array Value → State → Outcome → State → Prop} (hpost : ∀ tb e args s v u, (limb_1_1.after args s (.returned v) u = true ∧ limb_1_2.after args s (.returned v) u = true ∧ True) → ReturnedEndW s (.returned v) u (Jvm.fieldLocs frame_1_writes args s ++ Jvm.arrayLocs frame_1_arrays args s ++ Jvm.staticLocs frame_1_statics s) 24 6272 → Post tb e args s (.returned v) u) :
    ArmFor flags0 classFile x code maxLocals ret World_1 tables_1 room_1 Calls_1 rest_1 Pre_1 Post := by
  intro l hfl _ _ p e ha hc hk s m args below hf hA hF happ hP
  obtain ⟨hcalls, hrest, hpre⟩ := hP
  obtain ⟨-, -, -, hnamed, -, -, -, hat⟩ := (Spec.applies_iff hf).mp happ
  obtain ⟨hg, hn⟩ := and_e (Cond.before_iff.mp (show (Jvm.Cond.and given_1 narrow_1).before args s = true from hpre))
  obtain ⟨g0, r0⟩ := and_e hg
  obtain ⟨g1, r1⟩ := and_e r0
  obtain ⟨g2, r2⟩ := and_e r1
  obtain ⟨g3, r3⟩ := and_e r2
  obtain ⟨g4, r4⟩ := and_e r3
  obtain ⟨g5, r5⟩ := and_e r4
  obtain ⟨w0, w1, w2, w3, w4, w5, rfl⟩ : ∃ w0 w1 w2 w3 w4 w5 : Value, args = #[w0, w1, w2, w3, w4, w5] := by
    have hs : args.size = 6 := by simpa [Cond.value, given_1] using g0
    obtain ⟨L⟩ := args
    match L, hs with
    | [w0, w1, w2, w3, w4, w5], _ => exact ⟨w0, w1, w2, w3, w4, w5, rfl⟩
  have hw := fun d (hd : d ∈ tables_1) => atoms_spec (ws := Jvm.Cond.code x code maxLocals ret :: tables_1) hat d (List.mem_cons_of_mem _ hd)
  obtain ⟨i0, ei0⟩ := isL_v g1
  obtain rfl : w0 = (.long i0) := Option.some.inj ei0
  obtain ⟨i1, ei1⟩ := isL_v g2
  obtain rfl : w1 = (.long i1) := Option.some.inj ei1
  obtain ⟨i2, ei2⟩ := isL_v g3
  obtain rfl : w2 = (.long i2) := Option.some.inj ei2
  obtain ⟨i3, ei3⟩ := isL_v g4
  obtain rfl : w3 = (.long i3) := Option.some.inj ei3
  obtain ⟨i4, ei4⟩ := isL_v g5
  obtain rfl : w4 = (.long i4) := Option.some.inj ei4
  obtain ⟨i5, ei5⟩ := is_v r5
  obtain rfl : w5 = (.int i5) := Option.some.inj ei5
  obtain ⟨hsets, hown0⟩ := atoms_of _ (rest_1_c_eq ▸ (show rest_1_c.before _ s = true from hrest))
  have n3 := not_v (Cond.before_iff.mp (hsets _ (List.mem_of_getElem? (i := 2) rfl)))
  obtain ⟨zC, eC⟩ := is_v (Cond.before_iff.mp (hsets _ (List.mem_of_getElem? (i := 1) rfl)))
  have S0 : Sta s s.heap "java/lang/String" "COMPACT_STRINGS" "Z" (.int zC) := Sta.start eC (Or.inl (hsets _ (List.mem_of_getElem? (i := 0) rfl)))
  have hz : ¬ (zC = (0 : Int32)) := gotF (Cond.eq_ints eC (Term.int_eval (0))) n3
  have hEL : EW s _ consts_1 := own_EW hw
  have hCH := CHv.start hEL (fun p hp => hcalls.1 p hp) (hsets _ (List.mem_of_getElem? (i := 2) rfl)) (own_wS hw _ (by simp [Bundle.stringAtoms])) (own_wS hw _ (by simp [Bundle.stringAtoms, Bundle.sN]))
  obtain ⟨n, o, h1, h2, h3, _, L, rfl, ⟨rfl, N⟩, hq⟩ := rm0 l s _ hw tables_1 i0 i1 i2 i3 i4 i5 s.heap s.heap.size (Nat.le_refl _) hEL (Old.start s) zC S0 hz p e ha hc hk s m _ below hf ((Spec.applies_iff_loose hf).mp happ).1 ⟨rfl, State.Warmed39.refl s, rfl, hCH⟩ trivial
  exact ⟨n, _, h1, h2, h3, hpost _ _ _ _ _ _ ⟨Cond.after_iff.mpr rfl, Cond.after_iff.mpr (eq_i res_at (Term.int_eval (1)) rfl), trivial⟩ ⟨hq.1, hq.2.1, hq.2.2.1, (hq.2.2.2.sift fun y hy => Or.inr (N y hy)).mono (by decide) (by decide)⟩⟩
theorem main_1_1 : Claimed_1_1 := comes_1 fun _ _ _ _ _ _ h hF => ⟨h.1, hF⟩
theorem main_1_2 : Claimed_1_2 := comes_1 fun _ _ _ _ _ _ h hF => ⟨h.2.1, hF⟩
end Jvm.Pilot.@@N@@
namespace Jvm.Pilot.@@N@@
open Jvm Jvm.ClassFile Sem Op Lib Jvm.Free Jvm.Stand Jvm.Pilot.@@N@@.Jvm.D
/-! MADE BY PROGRAM (witnessworld.py) out of the Statement's table words and the real class files: 18 classes; the members and pool entries that the words name. The judged class is class 1, her method 1. -/
namespace start1
open Jvm.ClassFile
def u (s : String) : CpInfo := .utf8 (stringToUtf16 s)
/-- a pool by its gaps: so many unusable entries, then the entry; so many at the end -/
def gap : Nat → List CpInfo → List CpInfo
  | 0, r => r
  | n + 1, r => .unusable :: gap n r
def poolList (es : List (Nat × CpInfo)) (last : Nat) : List CpInfo := es.foldr (fun e r => gap e.1 (e.2 :: r)) (gap last [])
def pool (es : List (Nat × CpInfo)) (last : Nat) : Array CpInfo := ⟨poolList es last⟩
def fileOf (pool : Array CpInfo) (this : Nat) (attrs : Array Attribute := #[]) (ms : Array MethodInfo := #[]) (fl : Nat := 33) (sup : Nat := 0) (ifs : Array Nat := #[]) (fds : Array FieldInfo := #[]) : ClassFile where
  minorVersion := 0
  majorVersion := 65
  constantPool := pool
  accessFlags := fl
  thisClass := this
  superClass := sup
  interfaces := ifs
  fields := fds
  methods := ms
  attributes := attrs
def plain (name : String) (sup : Option ClassId) : Class where
  name := name
  kind := .ordinary
  loader := none
  accessFlags := 33
  super := sup
  interfaces := #[]
  cf := none
  fields := #[]
  methods := #[]
  instanceTypes := #[]
  staticTypes := #[]
  resolved := #[]
  callSites := []
  init := .initialized
  statics := none
  mirror := none

def pool0 : Array CpInfo := pool [(5, u "<init>"), (0, u "()V"), (1, .class_ 10), (1, u "java/lang/Object")] 113

def k0c0 : Code := { maxStack := 0, maxLocals := 1, code := object_method_1_code, exceptionTable := #[], attributes := #[] }
def k0m0 : Method := { name := "<init>", desc := "()V", sig := { parameters := [], returnType := none }, accessFlags := 1, code := some k0c0 }
/-- java/lang/Object -/
def k0 : Class := { plain "java/lang/Object" none with
  accessFlags := 33
  interfaces := #[]
  cf := some (fileOf pool0 8 #[] #[{ accessFlags := 1, nameIndex := 5, descriptorIndex := 6, attributes := #[] }] 33 0 #[] #[])
  fields := #[]
  methods := #[k0m0]
  instanceTypes := #[]
  staticTypes := #[]
  resolved := Array.replicate 124 none
  statics := none }

def pool1 : Array CpInfo := pool [(2, .class_ 4), (1, u "java/lang/Object"), (0, u "<init>"), (0, u "()V"), (0, .class_ 8), (0, u "com/example/gangway/gangway/model/Job"), (0, .methodref 7 10), (0, .nameAndType 5 11), (0, u "(JJJJJI)V"), (0, .methodref 7 13), (0, .nameAndType 14 15), (0, u "unknownValue"), (0, u "()Ljava/lang/String;"), (0, .string 17), (0, u "run time"), (0, .methodref 19 20), (0, .class_ 21), (0, .nameAndType 22 23), (0, u "java/lang/String"), (0, u "equals"), (0, u "(Ljava/lang/Object;)Z"), (0, .string 25), (0, u "size"), (0, .string 27), (0, u "estimate"), (0, .class_ 29), (0, u "com/example/gangway/gangway/model/JobUnknownValuePinLaw"), (2, u "law"), (0, u "(JJJJJI)Z")] 3

def k1m0 : Method := { name := "<init>", desc := "()V", sig := { parameters := [], returnType := none }, accessFlags := 1, code := none }
def k1c1 : Code := { maxStack := 13, maxLocals := 16, code := code, exceptionTable := #[], attributes := #[] }
def k1m1 : Method := { name := "law", desc := "(JJJJJI)Z", sig := { parameters := [.long, .long, .long, .long, .long, .int], returnType := some .boolean }, accessFlags := 9, code := some k1c1 }
/-- com/example/gangway/gangway/model/JobUnknownValuePinLaw -/
def k1 : Class := { plain "com/example/gangway/gangway/model/JobUnknownValuePinLaw" (some 0) with
  accessFlags := 49
  interfaces := #[]
  cf := some (fileOf pool1 28 #[] #[{ accessFlags := 1, nameIndex := 5, descriptorIndex := 6, attributes := #[] }, { accessFlags := 9, nameIndex := 32, descriptorIndex := 33, attributes := #[] }] 49 2 #[] #[])
  fields := #[]
  methods := #[k1m0, k1m1]
  instanceTypes := #[]
  staticTypes := #[]
  resolved := Array.replicate 37 none
  statics := none }

def pool2 : Array CpInfo := pool [(1, .methodref 2 3), (0, .class_ 4), (0, .nameAndType 5 6), (0, u "java/lang/Object"), (0, u "<init>"), (0, u "()V"), (0, .class_ 8), (0, u "java/lang/Record")] 13

def k2c0 : Code := { maxStack := 1, maxLocals := 1, code := jdk_30_method_1_code, exceptionTable := #[], attributes := #[] }
def k2m0 : Method := { name := "<init>", desc := "()V", sig := { parameters := [], returnType := none }, accessFlags := 4, code := some k2c0 }
/-- java/lang/Record -/
def k2 : Class := { plain "java/lang/Record" (some 0) with
  accessFlags := 1057
  interfaces := #[]
  cf := some (fileOf pool2 7 #[] #[{ accessFlags := 4, nameIndex := 5, descriptorIndex := 6, attributes := #[] }] 1057 2 #[] #[])
  fields := #[]
  methods := #[k2m0]
  instanceTypes := #[]
  staticTypes := #[]
  resolved := Array.replicate 22 none
  statics := none }

def pool3 : Array CpInfo := pool [(1, .methodref 2 3), (0, .class_ 4), (0, .nameAndType 5 6), (0, u "java/lang/Record"), (0, u "<init>"), (0, u "()V"), (0, .fieldref 8 9), (0, .class_ 10), (0, .nameAndType 11 12), (0, u "com/example/gangway/gangway/model/Job"), (0, u "number"), (0, u "J"), (0, .fieldref 8 14), (0, .nameAndType 15 12), (0, u "submit"), (0, .fieldref 8 17), (0, .nameAndType 18 12), (0, u "runTime"), (0, .fieldref 8 20), (0, .nameAndType 21 12), (0, u "size"), (0, .fieldref 8 23), (0, .nameAndType 24 12), (0, u "estimate"), (0, .fieldref 8 26), (0, .nameAndType 27 28), (0, u "user"), (0, u "I"), (2, u "(JJJJJI)V"), (2, u "BY_ARRIVAL"), (0, u "Ljava/util/Comparator;"), (8, u "unknownValue"), (0, u "()Ljava/lang/String;"), (0, .string 47), (0, u "run time"), (0, .string 21), (0, .string 24), (25, u "UNKNOWN_USER")] 72

def k3c0 : Code := { maxStack := 3, maxLocals := 12, code := prog_73_method_2_code, exceptionTable := #[], attributes := #[] }
def k3m0 : Method := { name := "<init>", desc := "(JJJJJI)V", sig := { parameters := [.long, .long, .long, .long, .long, .int], returnType := none }, accessFlags := 1, code := some k3c0 }
def k3c1 : Code := { maxStack := 4, maxLocals := 2, code := prog_73_method_7_code, exceptionTable := #[], attributes := #[] }
def k3m1 : Method := { name := "unknownValue", desc := "()Ljava/lang/String;", sig := { parameters := [], returnType := some (.object "java/lang/String") }, accessFlags := 1, code := some k3c1 }
/-- com/example/gangway/gangway/model/Job -/
def k3 : Class := { plain "com/example/gangway/gangway/model/Job" (some 2) with
  accessFlags := 49
  interfaces := #[]
  cf := some (fileOf pool3 8 #[] #[{ accessFlags := 1, nameIndex := 5, descriptorIndex := 31, attributes := #[] }, { accessFlags := 1, nameIndex := 44, descriptorIndex := 45, attributes := #[] }] 49 2 #[] #[{ accessFlags := 18, nameIndex := 11, descriptorIndex := 12, attributes := #[] }, { accessFlags := 18, nameIndex := 15, descriptorIndex := 12, attributes := #[] }, { accessFlags := 18, nameIndex := 18, descriptorIndex := 12, attributes := #[] }, { accessFlags := 18, nameIndex := 21, descriptorIndex := 12, attributes := #[] }, { accessFlags := 18, nameIndex := 24, descriptorIndex := 12, attributes := #[] }, { accessFlags := 18, nameIndex := 27, descriptorIndex := 28, attributes := #[] }, { accessFlags := 25, nameIndex := 75, descriptorIndex := 28, attributes := #[] }, { accessFlags := 25, nameIndex := 34, descriptorIndex := 35, attributes := #[] }])
  fields := #[{ name := "number", type := .long, accessFlags := 18, slot := 0, constantValue := 0 }, { name := "submit", type := .long, accessFlags := 18, slot := 1, constantValue := 0 }, { name := "runTime", type := .long, accessFlags := 18, slot := 2, constantValue := 0 }, { name := "size", type := .long, accessFlags := 18, slot := 3, constantValue := 0 }, { name := "estimate", type := .long, accessFlags := 18, slot := 4, constantValue := 0 }, { name := "user", type := .int, accessFlags := 18, slot := 5, constantValue := 0 }, { name := "UNKNOWN_USER", type := .int, accessFlags := 25, slot := 0, constantValue := 0 }, { name := "BY_ARRIVAL", type := (.object "java/util/Comparator"), accessFlags := 25, slot := 1, constantValue := 0 }]
  methods := #[k3m0, k3m1]
  instanceTypes := #[.long, .long, .long, .long, .long, .int]
  staticTypes := #[.int, (.object "java/util/Comparator")]
  resolved := Array.replicate 148 none
  statics := none }

def pool4 : Array CpInfo := pool [(1, .class_ 2), (0, u "java/io/Serializable"), (0, .class_ 4), (0, u "java/lang/Object")] 2

/-- java/io/Serializable -/
def k4 : Class := { plain "java/io/Serializable" (some 0) with
  accessFlags := 1537
  interfaces := #[]
  cf := some (fileOf pool4 1 #[] #[] 1537 3 #[] #[])
  fields := #[]
  methods := #[]
  instanceTypes := #[]
  staticTypes := #[]
  resolved := Array.replicate 7 none
  statics := none }

def pool5 : Array CpInfo := pool [(1, .class_ 2), (0, u "java/lang/Comparable"), (0, .class_ 4), (0, u "java/lang/Object")] 7

/-- java/lang/Comparable -/
def k5 : Class := { plain "java/lang/Comparable" (some 0) with
  accessFlags := 1537
  interfaces := #[]
  cf := some (fileOf pool5 1 #[] #[] 1537 3 #[] #[])
  fields := #[]
  methods := #[]
  instanceTypes := #[]
  staticTypes := #[]
  resolved := Array.replicate 12 none
  statics := none }

def pool6 : Array CpInfo := pool [(2, .class_ 4), (1, u "java/lang/CharSequence"), (42, .class_ 48), (0, u "java/lang/CharSequence$1CodePointIterator"), (10, .class_ 60), (0, u "java/lang/CharSequence$1CharIterator"), (5, .class_ 67), (0, u "java/lang/Object")] 63

/-- java/lang/CharSequence -/
def k6 : Class := { plain "java/lang/CharSequence" (some 0) with
  accessFlags := 1537
  interfaces := #[]
  cf := some (fileOf pool6 2 #[.nestMembers #[47, 59]] #[] 1537 66 #[] #[])
  fields := #[]
  methods := #[]
  instanceTypes := #[]
  staticTypes := #[]
  resolved := Array.replicate 131 none
  statics := none }

def pool7 : Array CpInfo := pool [(1, .class_ 2), (0, u "java/lang/constant/Constable"), (0, .class_ 4), (0, u "java/lang/Object")] 6

/-- java/lang/constant/Constable -/
def k7 : Class := { plain "java/lang/constant/Constable" (some 0) with
  accessFlags := 1537
  interfaces := #[]
  cf := some (fileOf pool7 1 #[] #[] 1537 3 #[] #[])
  fields := #[]
  methods := #[]
  instanceTypes := #[]
  staticTypes := #[]
  resolved := Array.replicate 11 none
  statics := none }

def pool8 : Array CpInfo := pool [(1, .class_ 2), (0, u "java/lang/constant/ConstantDesc"), (0, .class_ 4), (0, u "java/lang/Object")] 32

/-- java/lang/constant/ConstantDesc -/
def k8 : Class := { plain "java/lang/constant/ConstantDesc" (some 0) with
  accessFlags := 1537
  interfaces := #[]
  cf := some (fileOf pool8 1 #[] #[] 1537 3 #[] #[])
  fields := #[]
  methods := #[]
  instanceTypes := #[]
  staticTypes := #[]
  resolved := Array.replicate 37 none
  statics := none }

def pool9 : Array CpInfo := pool [(2, .class_ 4), (1, u "java/lang/Object"), (0, u "<init>"), (0, u "()V"), (2, .fieldref 10 11), (0, .class_ 12), (0, .nameAndType 13 14), (0, u "java/lang/String"), (0, u "value"), (0, u "[B"), (0, .fieldref 10 16), (0, .nameAndType 17 18), (0, u "coder"), (0, u "B"), (2, u "hash"), (0, u "I"), (2, u "hashIsZero"), (0, u "Z"), (11, .fieldref 10 39), (0, .nameAndType 40 26), (0, u "COMPACT_STRINGS"), (66, .class_ 109), (1, u "java/lang/StringLatin1"), (431, .methodref 107 542), (0, .nameAndType 543 544), (0, u "equals"), (0, u "([B[B)Z"), (28, u "(Ljava/lang/Object;)Z"), (1, .class_ 576), (0, u "java/lang/CharSequence"), (22, u "CASE_INSENSITIVE_ORDER"), (0, u "Ljava/util/Comparator;"), (500, u "serialPersistentFields"), (0, u "[Ljava/io/ObjectStreamField;"), (0, .class_ 1104), (0, u "java/lang/String$CaseInsensitiveComparator"), (1, .class_ 1107), (0, u "java/io/Serializable"), (0, .class_ 1109), (0, u "java/lang/Comparable"), (0, .class_ 1111), (0, u "java/lang/constant/Constable"), (0, .class_ 1113), (0, u "java/lang/constant/ConstantDesc"), (2, u "serialVersionUID"), (0, u "J"), (3, u "REPL"), (0, u "C"), (2, u "LATIN1"), (1, u "UTF16")] 323

def k9m0 : Method := { name := "<init>", desc := "()V", sig := { parameters := [], returnType := none }, accessFlags := 1, code := none }
def k9c1 : Code := { maxStack := 2, maxLocals := 3, code := jdk_42_method_66_code, exceptionTable := #[], attributes := #[] }
def k9m1 : Method := { name := "equals", desc := "(Ljava/lang/Object;)Z", sig := { parameters := [(.object "java/lang/Object")], returnType := some .boolean }, accessFlags := 1, code := some k9c1 }
/-- java/lang/String -/
def k9 : Class := { plain "java/lang/String" (some 0) with
  accessFlags := 49
  interfaces := #[4, 5, 6, 7, 8]
  cf := some (fileOf pool9 10 #[.nestMembers #[1103]] #[{ accessFlags := 1, nameIndex := 5, descriptorIndex := 6, attributes := #[] }, { accessFlags := 1, nameIndex := 543, descriptorIndex := 573, attributes := #[] }] 49 2 #[1106, 1108, 575, 1110, 1112] #[{ accessFlags := 18, nameIndex := 13, descriptorIndex := 14, attributes := #[] }, { accessFlags := 18, nameIndex := 17, descriptorIndex := 18, attributes := #[] }, { accessFlags := 2, nameIndex := 21, descriptorIndex := 22, attributes := #[] }, { accessFlags := 2, nameIndex := 25, descriptorIndex := 26, attributes := #[] }, { accessFlags := 26, nameIndex := 1116, descriptorIndex := 1117, attributes := #[] }, { accessFlags := 24, nameIndex := 40, descriptorIndex := 26, attributes := #[] }, { accessFlags := 26, nameIndex := 1101, descriptorIndex := 1102, attributes := #[] }, { accessFlags := 26, nameIndex := 1121, descriptorIndex := 1122, attributes := #[] }, { accessFlags := 25, nameIndex := 599, descriptorIndex := 600, attributes := #[] }, { accessFlags := 24, nameIndex := 1125, descriptorIndex := 18, attributes := #[] }, { accessFlags := 24, nameIndex := 1127, descriptorIndex := 18, attributes := #[] }])
  fields := #[{ name := "value", type := (.array .byte), accessFlags := 18, slot := 0, constantValue := 0 }, { name := "coder", type := .byte, accessFlags := 18, slot := 1, constantValue := 0 }, { name := "hash", type := .int, accessFlags := 2, slot := 2, constantValue := 0 }, { name := "hashIsZero", type := .boolean, accessFlags := 2, slot := 3, constantValue := 0 }, { name := "serialVersionUID", type := .long, accessFlags := 26, slot := 0, constantValue := 0 }, { name := "COMPACT_STRINGS", type := .boolean, accessFlags := 24, slot := 1, constantValue := 0 }, { name := "serialPersistentFields", type := (.array (.object "java/io/ObjectStreamField")), accessFlags := 26, slot := 2, constantValue := 0 }, { name := "REPL", type := .char, accessFlags := 26, slot := 3, constantValue := 0 }, { name := "CASE_INSENSITIVE_ORDER", type := (.object "java/util/Comparator"), accessFlags := 25, slot := 4, constantValue := 0 }, { name := "LATIN1", type := .byte, accessFlags := 24, slot := 5, constantValue := 0 }, { name := "UTF16", type := .byte, accessFlags := 24, slot := 6, constantValue := 0 }]
  methods := #[k9m0, k9m1]
  instanceTypes := #[(.array .byte), .byte, .int, .boolean]
  staticTypes := #[.long, .boolean, (.array (.object "java/io/ObjectStreamField")), .char, (.object "java/util/Comparator"), .byte, .byte]
  resolved := Array.replicate 1451 none
  statics := some 0 }

def pool10 : Array CpInfo := pool [(4, .class_ 6), (1, u "java/lang/Object"), (0, u "<init>"), (0, u "()V"), (5, .class_ 16), (1, u "java/lang/StringLatin1"), (104, u "$assertionsDisabled"), (0, u "Z"), (98, .class_ 223), (1, u "java/lang/StringLatin1$LinesSpliterator"), (57, u "equals"), (0, u "([B[B)Z"), (107, .class_ 391), (0, u "java/lang/StringLatin1$CharsSpliterator")] 3

def k10m0 : Method := { name := "<init>", desc := "()V", sig := { parameters := [], returnType := none }, accessFlags := 0, code := none }
def k10c1 : Code := { maxStack := 3, maxLocals := 3, code := jdk_43_method_13_code, exceptionTable := #[], attributes := #[] }
def k10m1 : Method := { name := "equals", desc := "([B[B)Z", sig := { parameters := [(.array .byte), (.array .byte)], returnType := some .boolean }, accessFlags := 9, code := some k10c1 }
/-- java/lang/StringLatin1 -/
def k10 : Class := { plain "java/lang/StringLatin1" (some 0) with
  accessFlags := 48
  interfaces := #[]
  cf := some (fileOf pool10 14 #[.nestMembers #[390, 221]] #[{ accessFlags := 0, nameIndex := 7, descriptorIndex := 8, attributes := #[] }, { accessFlags := 9, nameIndex := 281, descriptorIndex := 282, attributes := #[] }] 48 4 #[] #[{ accessFlags := 4120, nameIndex := 121, descriptorIndex := 122, attributes := #[] }])
  fields := #[{ name := "$assertionsDisabled", type := .boolean, accessFlags := 4120, slot := 0, constantValue := 0 }]
  methods := #[k10m0, k10m1]
  instanceTypes := #[]
  staticTypes := #[.boolean]
  resolved := Array.replicate 395 none
  statics := none }

def pool11 : Array CpInfo := pool [(2, .class_ 4), (1, u "java/lang/Object"), (0, u "<init>"), (0, u "()V"), (17, .class_ 26), (1, u "jdk/internal/util/Preconditions"), (28, .class_ 56), (0, u "jdk/internal/util/Preconditions$4"), (57, .class_ 115), (0, u "jdk/internal/util/Preconditions$1"), (7, u "SIOOBE_FORMATTER"), (0, u "Ljava/util/function/BiFunction;"), (0, .class_ 126), (0, u "jdk/internal/util/Preconditions$2"), (3, u "AIOOBE_FORMATTER"), (0, .class_ 132), (0, u "jdk/internal/util/Preconditions$3"), (3, u "IOOBE_FORMATTER")] 57

def k11m0 : Method := { name := "<init>", desc := "()V", sig := { parameters := [], returnType := none }, accessFlags := 1, code := none }
/-- jdk/internal/util/Preconditions -/
def k11 : Class := { plain "jdk/internal/util/Preconditions" (some 0) with
  accessFlags := 33
  interfaces := #[]
  cf := some (fileOf pool11 24 #[.nestMembers #[55, 131, 125, 114]] #[{ accessFlags := 1, nameIndex := 5, descriptorIndex := 6, attributes := #[] }] 33 2 #[] #[{ accessFlags := 25, nameIndex := 123, descriptorIndex := 124, attributes := #[] }, { accessFlags := 25, nameIndex := 130, descriptorIndex := 124, attributes := #[] }, { accessFlags := 25, nameIndex := 136, descriptorIndex := 124, attributes := #[] }])
  fields := #[{ name := "SIOOBE_FORMATTER", type := (.object "java/util/function/BiFunction"), accessFlags := 25, slot := 0, constantValue := 0 }, { name := "AIOOBE_FORMATTER", type := (.object "java/util/function/BiFunction"), accessFlags := 25, slot := 1, constantValue := 0 }, { name := "IOOBE_FORMATTER", type := (.object "java/util/function/BiFunction"), accessFlags := 25, slot := 2, constantValue := 0 }]
  methods := #[k11m0]
  instanceTypes := #[]
  staticTypes := #[(.object "java/util/function/BiFunction"), (.object "java/util/function/BiFunction"), (.object "java/util/function/BiFunction")]
  resolved := Array.replicate 194 none
  statics := some 1 }

def pool12 : Array CpInfo := pool [(9, u "<init>"), (6, .class_ 18), (1, u "java/lang/Object"), (0, u "()V"), (1, .class_ 23), (1, u "jdk/internal/util/ArraysSupport"), (0, u "LOG2_ARRAY_LONG_INDEX_SCALE"), (0, u "I"), (2, u "U"), (0, u "Ljdk/internal/misc/Unsafe;"), (8, u "BIG_ENDIAN"), (0, u "Z"), (8, u "LOG2_BYTE_BIT_SIZE"), (4, u "LOG2_ARRAY_INT_INDEX_SCALE"), (54, u "JLA"), (0, u "Ljdk/internal/access/JavaLangAccess;"), (11, u "LOG2_ARRAY_BOOLEAN_INDEX_SCALE"), (9, u "LOG2_ARRAY_BYTE_INDEX_SCALE"), (5, u "LOG2_ARRAY_CHAR_INDEX_SCALE"), (5, u "LOG2_ARRAY_SHORT_INDEX_SCALE"), (18, u "LOG2_ARRAY_FLOAT_INDEX_SCALE"), (24, u "LOG2_ARRAY_DOUBLE_INDEX_SCALE"), (89, u "T_BOOLEAN"), (2, u "T_CHAR"), (1, u "T_FLOAT"), (1, u "T_DOUBLE"), (1, u "T_BYTE"), (1, u "T_SHORT"), (1, u "T_INT"), (1, u "T_LONG"), (1, u "SOFT_MAX_ARRAY_LENGTH")] 83

def k12m0 : Method := { name := "<init>", desc := "()V", sig := { parameters := [], returnType := none }, accessFlags := 2, code := none }
/-- jdk/internal/util/ArraysSupport -/
def k12 : Class := { plain "jdk/internal/util/ArraysSupport" (some 0) with
  accessFlags := 33
  interfaces := #[]
  cf := some (fileOf pool12 21 #[] #[{ accessFlags := 2, nameIndex := 9, descriptorIndex := 19, attributes := #[] }] 33 16 #[] #[{ accessFlags := 24, nameIndex := 28, descriptorIndex := 29, attributes := #[] }, { accessFlags := 26, nameIndex := 38, descriptorIndex := 39, attributes := #[] }, { accessFlags := 25, nameIndex := 121, descriptorIndex := 25, attributes := #[] }, { accessFlags := 25, nameIndex := 131, descriptorIndex := 25, attributes := #[] }, { accessFlags := 25, nameIndex := 137, descriptorIndex := 25, attributes := #[] }, { accessFlags := 25, nameIndex := 143, descriptorIndex := 25, attributes := #[] }, { accessFlags := 25, nameIndex := 53, descriptorIndex := 25, attributes := #[] }, { accessFlags := 25, nameIndex := 24, descriptorIndex := 25, attributes := #[] }, { accessFlags := 25, nameIndex := 162, descriptorIndex := 25, attributes := #[] }, { accessFlags := 25, nameIndex := 187, descriptorIndex := 25, attributes := #[] }, { accessFlags := 26, nameIndex := 48, descriptorIndex := 25, attributes := #[] }, { accessFlags := 25, nameIndex := 277, descriptorIndex := 25, attributes := #[] }, { accessFlags := 25, nameIndex := 280, descriptorIndex := 25, attributes := #[] }, { accessFlags := 25, nameIndex := 282, descriptorIndex := 25, attributes := #[] }, { accessFlags := 25, nameIndex := 284, descriptorIndex := 25, attributes := #[] }, { accessFlags := 25, nameIndex := 286, descriptorIndex := 25, attributes := #[] }, { accessFlags := 25, nameIndex := 288, descriptorIndex := 25, attributes := #[] }, { accessFlags := 25, nameIndex := 290, descriptorIndex := 25, attributes := #[] }, { accessFlags := 25, nameIndex := 292, descriptorIndex := 25, attributes := #[] }, { accessFlags := 26, nameIndex := 108, descriptorIndex := 109, attributes := #[] }, { accessFlags := 25, nameIndex := 294, descriptorIndex := 25, attributes := #[] }])
  fields := #[{ name := "U", type := (.object "jdk/internal/misc/Unsafe"), accessFlags := 24, slot := 0, constantValue := 0 }, { name := "BIG_ENDIAN", type := .boolean, accessFlags := 26, slot := 1, constantValue := 0 }, { name := "LOG2_ARRAY_BOOLEAN_INDEX_SCALE", type := .int, accessFlags := 25, slot := 2, constantValue := 0 }, { name := "LOG2_ARRAY_BYTE_INDEX_SCALE", type := .int, accessFlags := 25, slot := 3, constantValue := 0 }, { name := "LOG2_ARRAY_CHAR_INDEX_SCALE", type := .int, accessFlags := 25, slot := 4, constantValue := 0 }, { name := "LOG2_ARRAY_SHORT_INDEX_SCALE", type := .int, accessFlags := 25, slot := 5, constantValue := 0 }, { name := "LOG2_ARRAY_INT_INDEX_SCALE", type := .int, accessFlags := 25, slot := 6, constantValue := 0 }, { name := "LOG2_ARRAY_LONG_INDEX_SCALE", type := .int, accessFlags := 25, slot := 7, constantValue := 0 }, { name := "LOG2_ARRAY_FLOAT_INDEX_SCALE", type := .int, accessFlags := 25, slot := 8, constantValue := 0 }, { name := "LOG2_ARRAY_DOUBLE_INDEX_SCALE", type := .int, accessFlags := 25, slot := 9, constantValue := 0 }, { name := "LOG2_BYTE_BIT_SIZE", type := .int, accessFlags := 26, slot := 10, constantValue := 0 }, { name := "T_BOOLEAN", type := .int, accessFlags := 25, slot := 11, constantValue := 0 }, { name := "T_CHAR", type := .int, accessFlags := 25, slot := 12, constantValue := 0 }, { name := "T_FLOAT", type := .int, accessFlags := 25, slot := 13, constantValue := 0 }, { name := "T_DOUBLE", type := .int, accessFlags := 25, slot := 14, constantValue := 0 }, { name := "T_BYTE", type := .int, accessFlags := 25, slot := 15, constantValue := 0 }, { name := "T_SHORT", type := .int, accessFlags := 25, slot := 16, constantValue := 0 }, { name := "T_INT", type := .int, accessFlags := 25, slot := 17, constantValue := 0 }, { name := "T_LONG", type := .int, accessFlags := 25, slot := 18, constantValue := 0 }, { name := "JLA", type := (.object "jdk/internal/access/JavaLangAccess"), accessFlags := 26, slot := 19, constantValue := 0 }, { name := "SOFT_MAX_ARRAY_LENGTH", type := .int, accessFlags := 25, slot := 20, constantValue := 0 }]
  methods := #[k12m0]
  instanceTypes := #[]
  staticTypes := #[(.object "jdk/internal/misc/Unsafe"), .boolean, .int, .int, .int, .int, .int, .int, .int, .int, .int, .int, .int, .int, .int, .int, .int, .int, .int, (.object "jdk/internal/access/JavaLangAccess"), .int]
  resolved := Array.replicate 378 none
  statics := none }

def pool13 : Array CpInfo := pool [(1, u "java/lang/Cloneable"), (0, .class_ 1), (0, u "java/lang/Object"), (0, .class_ 3)] 3

/-- java/lang/Cloneable -/
def k13 : Class := { plain "java/lang/Cloneable" (some 0) with
  accessFlags := 1537
  interfaces := #[]
  cf := some (fileOf pool13 2 #[] #[] 1537 4 #[] #[])
  fields := #[]
  methods := #[]
  instanceTypes := #[]
  staticTypes := #[]
  resolved := Array.replicate 8 none
  statics := none }

/-- the primitive byte -/
def k14 : Class := { plain "byte" none with kind := .primitive 'B', accessFlags := 0x411 }
/-- [B -/
def k15 : Class := { plain "[B" (some 0) with kind := .array 14 .byte, interfaces := #[13, 4], accessFlags := 1041 }

/-- the primitive int -/
def k16 : Class := { plain "int" none with kind := .primitive 'I', accessFlags := 0x411 }
/-- [I -/
def k17 : Class := { plain "[I" (some 0) with kind := .array 16 .int, interfaces := #[13, 4], accessFlags := 1041 }

def heap : Heap := #[{ cls := 9, slots := #[.long 0, .int 1, .null, .int 0, .null, .int 0, .int 0], vm := .statics 9 },
  { cls := 11, slots := #[.null, .null, .null], vm := .statics 11 }]
def classes : Array Class := #[k0, k1, k2, k3, k4, k5, k6, k7, k8, k9, k10, k11, k12, k13, k14, k15, k16, k17]
def interned : List (Array UInt16 × Addr) := []
def slotsUsed : Nat := 10
def theMethod : MethodId := ⟨1, 1⟩
def args0 : Array Value := #[.long 5, .long 7, .long 9, .long 3, .long 2, .int 4]
def aboutOver (below : List Frame) : State where
  vm := { classes := classes, interned := interned.toArray }
  heap := heap
  slotsUsed := slotsUsed
  threads := #[{ frames := .invoking theMethod args0 :: below }]
def below0 : List Frame := [.native { method := ⟨0, 0⟩, args := #[] }]
def about1 : State := aboutOver below0
def p0 : Program := .bare "" "" ""
def e0 : Env := launch0.env 0 0 0
theorem w_frames : about1.frames = Frame.invoking theMethod args0 :: below0 := rfl
set_option maxRecDepth 65536 in
theorem w_args : argsFit about1.vm theMethod args0 = true := by decide +kernel
set_option maxRecDepth 65536 in
theorem w_heap : heapFits about1 = true := by decide +kernel
set_option maxRecDepth 65536 in
theorem w_runnable : about1.curStatus? = some .runnable := by decide +kernel
set_option maxRecDepth 65536 in
theorem w_alone : about1.alone = true := by decide +kernel
set_option maxRecDepth 65536 in
theorem w_named : about1.methodNamed? x = some theMethod := by decide +kernel
set_option maxRecDepth 65536 in
theorem w_hears : about1.hears theMethod below0 = true := by decide +kernel
set_option maxRecDepth 65536 in
theorem w_ripe : about1.ripe theMethod args0 below0 = true := by decide +kernel
theorem w_running : about1.status = .running := rfl
set_option maxRecDepth 65536 in
theorem w_room : about1.hasRoom e0.platform room_1 = true :=
  launch0.hasRoom_least _ room_1 (by decide +kernel) (by decide +kernel) (by decide +kernel) (by decide +kernel) (by decide +kernel) (by decide +kernel)
theorem allAtoms_all (ts : List Jvm.Cond) (a : Array Jvm.Value) (st : Jvm.State) : (allAtoms ts).before a st = ts.all (fun c => c.before a st) := by
  induction ts with
  | nil => rfl
  | cons c t ih =>
    show (Jvm.Cond.and c (allAtoms t)).before a st = _
    rw [Jvm.Cond.before_and, ih, List.all_cons]
def words1 : List Jvm.Cond := Jvm.Cond.code x code maxLocals ret :: tables_1
/-- a 'code' word, met by the world's own term for the bytes: nothing is compared byte by byte -/
theorem code_word {y : MethodName} {bytes : ByteArray} {mx : Nat} {rt : Option FieldType} {a : Array Value} {s : State} {m : MethodId} {meth : Method} {c : Code} (h1 : s.methodNamed? y = some m) (h2 : s.vm.method? m = some meth) (h3 : meth.code = some c) (h4 : c.code = bytes)
    (h5 : (c.maxLocals == mx && c.exceptionTable.isEmpty && decide (c.maxStack ≤ mostOperands) && decide (meth.sig.returnType = rt) && !meth.locks && decide (parseMethodDescriptor y.desc = some meth.sig)) = true) : (Jvm.Cond.code y bytes mx rt).before a s = true := by
  simp only [Bool.and_eq_true, beq_iff_eq, Bool.not_eq_true', decide_eq_true_eq] at h5
  obtain ⟨⟨⟨⟨⟨g1, g2⟩, g3⟩, g4⟩, g5⟩, g6⟩ := h5
  simp [Cond.before, Cond.holds, Cond.value, h1, h2, h3, h4, g1, g2, g3, g4, g5, g6]
def isCode : Jvm.Cond → Bool
  | .code _ _ _ _ => true
  | _ => false
theorem all_split {L : List Jvm.Cond} {P : Jvm.Cond → Bool} (h1 : L.all (fun c => isCode c || P c) = true) (h2 : ∀ c ∈ L.filter isCode, P c = true) : L.all P = true := by
  refine List.all_eq_true.mpr fun c hc => ?_
  have h := List.all_eq_true.mp h1 c hc
  rcases Bool.eq_false_or_eq_true (isCode c) with hi | hi
  · exact h2 c (List.mem_filter.mpr ⟨hc, hi⟩)
  · simpa [hi] using h
set_option maxRecDepth 65536 in
theorem w_c0 : (Jvm.Cond.code x code maxLocals ret).before args0 about1 = true := code_word (m := ⟨1, 1⟩) (meth := k1m1) (c := k1c1) (by decide +kernel) rfl rfl rfl (by decide +kernel)
set_option maxRecDepth 65536 in
theorem w_c1 : (Jvm.Cond.code ({ cls := "com/example/gangway/gangway/model/Job", name := "<init>", desc := "(JJJJJI)V" } : Jvm.MethodName) prog_73_method_2_code (12 : Nat) (Option.none : Option Jvm.ClassFile.FieldType)).before args0 about1 = true := code_word (m := ⟨3, 0⟩) (meth := k3m0) (c := k3c0) (by decide +kernel) rfl rfl rfl (by decide +kernel)
set_option maxRecDepth 65536 in
theorem w_c2 : (Jvm.Cond.code ({ cls := "java/lang/Record", name := "<init>", desc := "()V" } : Jvm.MethodName) jdk_30_method_1_code (1 : Nat) (Option.none : Option Jvm.ClassFile.FieldType)).before args0 about1 = true := code_word (m := ⟨2, 0⟩) (meth := k2m0) (c := k2c0) (by decide +kernel) rfl rfl rfl (by decide +kernel)
set_option maxRecDepth 65536 in
theorem w_c3 : (Jvm.Cond.code ({ cls := "java/lang/Object", name := "<init>", desc := "()V" } : Jvm.MethodName) object_method_1_code (1 : Nat) (Option.none : Option Jvm.ClassFile.FieldType)).before args0 about1 = true := code_word (m := ⟨0, 0⟩) (meth := k0m0) (c := k0c0) (by decide +kernel) rfl rfl rfl (by decide +kernel)
set_option maxRecDepth 65536 in
theorem w_c4 : (Jvm.Cond.code ({ cls := "com/example/gangway/gangway/model/Job", name := "unknownValue", desc := "()Ljava/lang/String;" } : Jvm.MethodName) prog_73_method_7_code (2 : Nat) (Option.some (Jvm.ClassFile.FieldType.object "java/lang/String"))).before args0 about1 = true := code_word (m := ⟨3, 1⟩) (meth := k3m1) (c := k3c1) (by decide +kernel) rfl rfl rfl (by decide +kernel)
set_option maxRecDepth 65536 in
theorem w_c5 : (Jvm.Cond.code ({ cls := "java/lang/String", name := "equals", desc := "(Ljava/lang/Object;)Z" } : Jvm.MethodName) jdk_42_method_66_code (3 : Nat) (Option.some Jvm.ClassFile.FieldType.boolean)).before args0 about1 = true := code_word (m := ⟨9, 1⟩) (meth := k9m1) (c := k9c1) (by decide +kernel) rfl rfl rfl (by decide +kernel)
set_option maxRecDepth 65536 in
theorem w_c6 : (Jvm.Cond.code ({ cls := "java/lang/StringLatin1", name := "equals", desc := "([B[B)Z" } : Jvm.MethodName) jdk_43_method_13_code (3 : Nat) (Option.some Jvm.ClassFile.FieldType.boolean)).before args0 about1 = true := code_word (m := ⟨10, 1⟩) (meth := k10m1) (c := k10c1) (by decide +kernel) rfl rfl rfl (by decide +kernel)
def codes1 : List Jvm.Cond := [Jvm.Cond.code x code maxLocals ret, Jvm.Cond.code ({ cls := "com/example/gangway/gangway/model/Job", name := "<init>", desc := "(JJJJJI)V" } : Jvm.MethodName) prog_73_method_2_code (12 : Nat) (Option.none : Option Jvm.ClassFile.FieldType), Jvm.Cond.code ({ cls := "java/lang/Record", name := "<init>", desc := "()V" } : Jvm.MethodName) jdk_30_method_1_code (1 : Nat) (Option.none : Option Jvm.ClassFile.FieldType), Jvm.Cond.code ({ cls := "java/lang/Object", name := "<init>", desc := "()V" } : Jvm.MethodName) object_method_1_code (1 : Nat) (Option.none : Option Jvm.ClassFile.FieldType), Jvm.Cond.code ({ cls := "com/example/gangway/gangway/model/Job", name := "unknownValue", desc := "()Ljava/lang/String;" } : Jvm.MethodName) prog_73_method_7_code (2 : Nat) (Option.some (Jvm.ClassFile.FieldType.object "java/lang/String")), Jvm.Cond.code ({ cls := "java/lang/String", name := "equals", desc := "(Ljava/lang/Object;)Z" } : Jvm.MethodName) jdk_42_method_66_code (3 : Nat) (Option.some Jvm.ClassFile.FieldType.boolean), Jvm.Cond.code ({ cls := "java/lang/StringLatin1", name := "equals", desc := "([B[B)Z" } : Jvm.MethodName) jdk_43_method_13_code (3 : Nat) (Option.some Jvm.ClassFile.FieldType.boolean)]
set_option maxRecDepth 65536 in
theorem codes_eq : words1.filter isCode = codes1 := rfl
theorem w_codes : ∀ c ∈ words1.filter isCode, c.before args0 about1 = true := by
  rw [codes_eq]
  intro c hc
  simp only [codes1, List.mem_cons, List.not_mem_nil, or_false] at hc
  rcases hc with rfl | rfl | rfl | rfl | rfl | rfl | rfl
  · exact w_c0
  · exact w_c1
  · exact w_c2
  · exact w_c3
  · exact w_c4
  · exact w_c5
  · exact w_c6
set_option maxRecDepth 65536 in
theorem w_t1 : (words1.take 24).all (fun c => isCode c || c.before args0 about1) = true := by decide +kernel
set_option maxRecDepth 65536 in
theorem w_t2 : ((words1.drop 24).take 24).all (fun c => isCode c || c.before args0 about1) = true := by decide +kernel
set_option maxRecDepth 65536 in
theorem w_t3 : ((words1.drop 24).drop 24).all (fun c => isCode c || c.before args0 about1) = true := by decide +kernel
theorem w_tables : (allAtoms (Jvm.Cond.code x code maxLocals ret :: tables_1)).before args0 about1 = true := by
  rw [allAtoms_all]
  show words1.all (fun c => c.before args0 about1) = true
  refine all_split ?_ w_codes
  rw [← List.take_append_drop 24 words1, List.all_append, w_t1, ← List.take_append_drop 24 (words1.drop 24), List.all_append, w_t2, w_t3]
  rfl
set_option maxRecDepth 65536 in
theorem w_rest : rest_1_c.before args0 about1 = true := by decide +kernel
set_option maxRecDepth 65536 in
theorem w_case : (Jvm.Cond.and given_1 narrow_1).before args0 about1 = true := by decide +kernel
set_option maxRecDepth 65536 in
theorem w_consts : constsHeld consts_1 about1 := Jvm.Lit.constsHeldB_iff.mp (by decide +kernel)
theorem w_applies : (headSpec (Jvm.Cond.code x code maxLocals ret :: tables_1) room_1).applies x e0.platform about1 = true :=
  (Spec.applies_iff w_frames).mpr ⟨w_running, w_runnable, w_alone, w_named, w_hears, w_ripe, w_room, w_tables⟩
theorem atStart : AtStart classFile x code maxLocals ret World_1 tables_1 room_1 Calls_1 rest_1 Pre_1 launch0 p0 e0 about1 theMethod args0 below0 :=
  ⟨lists_1, trivial, launch0.admits_env _ _ _, launch0.least_env, fairChoices_fair.cas, fairChoices_fair.clock, w_frames, w_args, w_heap, w_applies, ⟨w_consts, trivial⟩, w_rest, w_case⟩
end start1
theorem witness_1 : WitnessClaimed_1 := ⟨start1.p0, start1.e0, start1.about1, start1.theMethod, start1.args0, start1.below0, start1.atStart⟩
end Jvm.Pilot.@@N@@
