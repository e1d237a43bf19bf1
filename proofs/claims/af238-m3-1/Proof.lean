import JvmDerived
import JvmDerived.Pilot.@@N@@Statement
import JvmDerived.Pilot.@@N@@Code
set_option linter.unusedVariables false
set_option linter.unusedSimpArgs false
namespace Jvm.RoadKit
open Sem ClassFile Op Lib Jvm.Stand Jvm.Free Jvm.LawKit
section New
variable {p : Program} {l : Launch} {e : Env} {R : Room} {s : State} {m : MethodId} {args : Array Value} {below : List Frame} {meth : Method} {c : Code} {T : State} {locs : List Loc} {cells slots : Nat}
theorem retI (X : Stand p l e R s m args below meth c T locs cells slots) (hx : p.tables.exec = Jvm.exec) {pc : Nat} {Ls : Array Slot} {z : Int32} {rest : List Value} (hret : meth.sig.returnType = some .int) (hd : decode c.code pc = .ok (.ireturn, 1)) {fs : List Frame}
    (hl : ∀ (f : JFrame) (acts : List Action), f.method = m → f.locked = none → f.entered = [] → (doReturn e (T.setTop f) acts (some (.int z))).1 = T.setFrames fs) : Steps p.tables e below (T.setTop (mkF m pc Ls (.int z :: rest))) (T.setFrames fs) := by
  have hm' : T.vm.method? m = some meth := X.method'
  have hn : narrow .int (.int z) = .int z := rfl
  show Steps p.tables e below (T.setTop { method := m, pc := pc, locals := Ls, stack := _ :: rest, locked := none }) _
  jvm_step X.here [X.here.top, hx, hd, hm', hret, hn]
  first | (intro acts; rw [hl _ acts rfl rfl rfl]) | rw [hl _ _ rfl rfl rfl]
  exact Steps.refl _
theorem retJ (X : Stand p l e R s m args below meth c T locs cells slots) (hx : p.tables.exec = Jvm.exec) {pc : Nat} {Ls : Array Slot} {z : Int64} {rest : List Value} (hret : meth.sig.returnType = some .long) (hd : decode c.code pc = .ok (.lreturn, 1)) {fs : List Frame}
    (hl : ∀ (f : JFrame) (acts : List Action), f.method = m → f.locked = none → f.entered = [] → (doReturn e (T.setTop f) acts (some (.long z))).1 = T.setFrames fs) : Steps p.tables e below (T.setTop (mkF m pc Ls (.long z :: rest))) (T.setFrames fs) := by
  have hm' : T.vm.method? m = some meth := X.method'
  have hn : narrow .long (.long z) = .long z := rfl
  show Steps p.tables e below (T.setTop { method := m, pc := pc, locals := Ls, stack := _ :: rest, locked := none }) _
  jvm_step X.here [X.here.top, hx, hd, hm', hret, hn]
  first | (intro acts; rw [hl _ acts rfl rfl rfl]) | rw [hl _ _ rfl rfl rfl]
  exact Steps.refl _
end New
end Jvm.RoadKit
namespace Jvm.Pilot.@@N@@
open Jvm Jvm.ClassFile Sem Op Lib Jvm.Free Jvm.Stand Jvm.LawKit Jvm.RoadKit Bundle Jvm.Pilot.@@N@@.Jvm.D
section Own
variable {p : Program} {l : Launch} {e : Env} {R : Room} {s : State} {m : MethodId} {args : Array Value} {below : List Frame} {meth : Method} {c : Code} {T : State} {locs : List Loc} {cells slots : Nat} {Q : Option Value → Heap → List Loc → Prop} {kc ks : Nat}
/-- from this frame the walk goes to its end, with Q -/
def OG (p : Program) (e : Env) (below : List Frame) (s : State) (Q : Option Value → Heap → List Loc → Prop) (kc ks : Nat) (T : State) (g : JFrame) : Prop :=
  ∃ s₂ o, Steps p.tables e below (T.setTop g) s₂ ∧ s₂.status = .running ∧ Ended s₂ below o ∧ ∃ v L, o = .returned v ∧ Q v s₂.heap L ∧ FrameEnd s o s₂ L kc ks
theorem OG.step {T' : State} {g g' : JFrame} (st : ∀ t, Steps p.tables e below (T'.setTop g') t → Steps p.tables e below (T.setTop g) t) (h : OG p e below s Q kc ks T' g') : OG p e below s Q kc ks T g := by
  obtain ⟨s₂, o, h1, h2⟩ := h
  exact ⟨s₂, o, st _ h1, h2⟩
theorem OG.cast {g g' : JFrame} (q : g = g') (h : OG p e below s Q kc ks T g') : OG p e below s Q kc ks T g := q ▸ h
theorem OG.mono {Q' : Option Value → Heap → List Loc → Prop} {g : JFrame} (hq : ∀ v h L, Q v h L → Q' v h L) (h : OG p e below s Q kc ks T g) : OG p e below s Q' kc ks T g := by
  obtain ⟨s₂, o, h1, h2, h3, v, L, h4, h5, h6⟩ := h
  exact ⟨s₂, o, h1, h2, h3, v, L, h4, hq _ _ _ h5, h6⟩
theorem o_iadd (X : Stand p l e R s m args below meth c T locs cells slots) (hx : p.tables.exec = Jvm.exec) {pc pc' : Nat} {Ls : Array Slot} {x y : Int32} {rest : List Value} (hd : decode c.code pc = .ok (.iadd, 1)) (hp : pc + 1 = pc') (h : OG p e below s Q kc ks T (mkF m pc' Ls (.int (x + y) :: rest))) : OG p e below s Q kc ks T (mkF m pc Ls (.int y :: .int x :: rest)) := by
  subst hp; exact OG.step (fun t q => XS.iadd X.here hx rfl hd rfl q) h
theorem o_isub (X : Stand p l e R s m args below meth c T locs cells slots) (hx : p.tables.exec = Jvm.exec) {pc pc' : Nat} {Ls : Array Slot} {x y : Int32} {rest : List Value} (hd : decode c.code pc = .ok (.isub, 1)) (hp : pc + 1 = pc') (h : OG p e below s Q kc ks T (mkF m pc' Ls (.int (x - y) :: rest))) : OG p e below s Q kc ks T (mkF m pc Ls (.int y :: .int x :: rest)) := by
  subst hp; exact OG.step (fun t q => XS.isub X.here hx rfl hd rfl q) h
theorem o_imul (X : Stand p l e R s m args below meth c T locs cells slots) (hx : p.tables.exec = Jvm.exec) {pc pc' : Nat} {Ls : Array Slot} {x y : Int32} {rest : List Value} (hd : decode c.code pc = .ok (.imul, 1)) (hp : pc + 1 = pc') (h : OG p e below s Q kc ks T (mkF m pc' Ls (.int (x * y) :: rest))) : OG p e below s Q kc ks T (mkF m pc Ls (.int y :: .int x :: rest)) := by
  subst hp; exact OG.step (fun t q => XS.imul X.here hx rfl hd rfl q) h
theorem o_iand (X : Stand p l e R s m args below meth c T locs cells slots) (hx : p.tables.exec = Jvm.exec) {pc pc' : Nat} {Ls : Array Slot} {x y : Int32} {rest : List Value} (hd : decode c.code pc = .ok (.iand, 1)) (hp : pc + 1 = pc') (h : OG p e below s Q kc ks T (mkF m pc' Ls (.int (x &&& y) :: rest))) : OG p e below s Q kc ks T (mkF m pc Ls (.int y :: .int x :: rest)) := by
  subst hp; exact OG.step (fun t q => XS.iand X.here hx rfl hd rfl q) h
theorem o_ior (X : Stand p l e R s m args below meth c T locs cells slots) (hx : p.tables.exec = Jvm.exec) {pc pc' : Nat} {Ls : Array Slot} {x y : Int32} {rest : List Value} (hd : decode c.code pc = .ok (.ior, 1)) (hp : pc + 1 = pc') (h : OG p e below s Q kc ks T (mkF m pc' Ls (.int (x ||| y) :: rest))) : OG p e below s Q kc ks T (mkF m pc Ls (.int y :: .int x :: rest)) := by
  subst hp; exact OG.step (fun t q => XS.ior X.here hx rfl hd rfl q) h
theorem o_ixor (X : Stand p l e R s m args below meth c T locs cells slots) (hx : p.tables.exec = Jvm.exec) {pc pc' : Nat} {Ls : Array Slot} {x y : Int32} {rest : List Value} (hd : decode c.code pc = .ok (.ixor, 1)) (hp : pc + 1 = pc') (h : OG p e below s Q kc ks T (mkF m pc' Ls (.int (x ^^^ y) :: rest))) : OG p e below s Q kc ks T (mkF m pc Ls (.int y :: .int x :: rest)) := by
  subst hp; exact OG.step (fun t q => XS.ixor X.here hx rfl hd rfl q) h
theorem o_ladd (X : Stand p l e R s m args below meth c T locs cells slots) (hx : p.tables.exec = Jvm.exec) {pc pc' : Nat} {Ls : Array Slot} {x y : Int64} {rest : List Value} (hd : decode c.code pc = .ok (.ladd, 1)) (hp : pc + 1 = pc') (h : OG p e below s Q kc ks T (mkF m pc' Ls (.long (x + y) :: rest))) : OG p e below s Q kc ks T (mkF m pc Ls (.long y :: .long x :: rest)) := by
  subst hp; exact OG.step (fun t q => XS.ladd X.here hx rfl hd rfl q) h
theorem o_lsub (X : Stand p l e R s m args below meth c T locs cells slots) (hx : p.tables.exec = Jvm.exec) {pc pc' : Nat} {Ls : Array Slot} {x y : Int64} {rest : List Value} (hd : decode c.code pc = .ok (.lsub, 1)) (hp : pc + 1 = pc') (h : OG p e below s Q kc ks T (mkF m pc' Ls (.long (x - y) :: rest))) : OG p e below s Q kc ks T (mkF m pc Ls (.long y :: .long x :: rest)) := by
  subst hp; exact OG.step (fun t q => XS.lsub X.here hx rfl hd rfl q) h
theorem o_lmul (X : Stand p l e R s m args below meth c T locs cells slots) (hx : p.tables.exec = Jvm.exec) {pc pc' : Nat} {Ls : Array Slot} {x y : Int64} {rest : List Value} (hd : decode c.code pc = .ok (.lmul, 1)) (hp : pc + 1 = pc') (h : OG p e below s Q kc ks T (mkF m pc' Ls (.long (x * y) :: rest))) : OG p e below s Q kc ks T (mkF m pc Ls (.long y :: .long x :: rest)) := by
  subst hp; exact OG.step (fun t q => XS.lmul X.here hx rfl hd rfl q) h
theorem o_land (X : Stand p l e R s m args below meth c T locs cells slots) (hx : p.tables.exec = Jvm.exec) {pc pc' : Nat} {Ls : Array Slot} {x y : Int64} {rest : List Value} (hd : decode c.code pc = .ok (.land, 1)) (hp : pc + 1 = pc') (h : OG p e below s Q kc ks T (mkF m pc' Ls (.long (x &&& y) :: rest))) : OG p e below s Q kc ks T (mkF m pc Ls (.long y :: .long x :: rest)) := by
  subst hp; exact OG.step (fun t q => XS.land X.here hx rfl hd rfl q) h
theorem o_lor (X : Stand p l e R s m args below meth c T locs cells slots) (hx : p.tables.exec = Jvm.exec) {pc pc' : Nat} {Ls : Array Slot} {x y : Int64} {rest : List Value} (hd : decode c.code pc = .ok (.lor, 1)) (hp : pc + 1 = pc') (h : OG p e below s Q kc ks T (mkF m pc' Ls (.long (x ||| y) :: rest))) : OG p e below s Q kc ks T (mkF m pc Ls (.long y :: .long x :: rest)) := by
  subst hp; exact OG.step (fun t q => XS.lor X.here hx rfl hd rfl q) h
theorem o_lxor (X : Stand p l e R s m args below meth c T locs cells slots) (hx : p.tables.exec = Jvm.exec) {pc pc' : Nat} {Ls : Array Slot} {x y : Int64} {rest : List Value} (hd : decode c.code pc = .ok (.lxor, 1)) (hp : pc + 1 = pc') (h : OG p e below s Q kc ks T (mkF m pc' Ls (.long (x ^^^ y) :: rest))) : OG p e below s Q kc ks T (mkF m pc Ls (.long y :: .long x :: rest)) := by
  subst hp; exact OG.step (fun t q => XS.lxor X.here hx rfl hd rfl q) h
theorem o_ishl (X : Stand p l e R s m args below meth c T locs cells slots) (hx : p.tables.exec = Jvm.exec) {pc pc' : Nat} {Ls : Array Slot} {x y : Int32} {rest : List Value} (hd : decode c.code pc = .ok (.ishl, 1)) (hp : pc + 1 = pc') (h : OG p e below s Q kc ks T (mkF m pc' Ls (.int (x <<< (y &&& 31)) :: rest))) : OG p e below s Q kc ks T (mkF m pc Ls (.int y :: .int x :: rest)) := by
  subst hp; exact OG.step (fun t q => XS.ishl X.here hx rfl hd rfl q) h
theorem o_ishr (X : Stand p l e R s m args below meth c T locs cells slots) (hx : p.tables.exec = Jvm.exec) {pc pc' : Nat} {Ls : Array Slot} {x y : Int32} {rest : List Value} (hd : decode c.code pc = .ok (.ishr, 1)) (hp : pc + 1 = pc') (h : OG p e below s Q kc ks T (mkF m pc' Ls (.int (x >>> (y &&& 31)) :: rest))) : OG p e below s Q kc ks T (mkF m pc Ls (.int y :: .int x :: rest)) := by
  subst hp; exact OG.step (fun t q => XS.ishr X.here hx rfl hd rfl q) h
theorem o_iushr (X : Stand p l e R s m args below meth c T locs cells slots) (hx : p.tables.exec = Jvm.exec) {pc pc' : Nat} {Ls : Array Slot} {x y : Int32} {rest : List Value} (hd : decode c.code pc = .ok (.iushr, 1)) (hp : pc + 1 = pc') (h : OG p e below s Q kc ks T (mkF m pc' Ls (.int ((x.toUInt32 >>> (y &&& 31).toUInt32).toInt32) :: rest))) : OG p e below s Q kc ks T (mkF m pc Ls (.int y :: .int x :: rest)) := by
  subst hp; exact OG.step (fun t q => XS.iushr X.here hx rfl hd rfl q) h
theorem o_lshl (X : Stand p l e R s m args below meth c T locs cells slots) (hx : p.tables.exec = Jvm.exec) {pc pc' : Nat} {Ls : Array Slot} {x : Int64} {y : Int32} {rest : List Value} (hd : decode c.code pc = .ok (.lshl, 1)) (hp : pc + 1 = pc') (h : OG p e below s Q kc ks T (mkF m pc' Ls (.long (x <<< (y &&& 0x3f).toInt64) :: rest))) : OG p e below s Q kc ks T (mkF m pc Ls (.int y :: .long x :: rest)) := by
  subst hp; exact OG.step (fun t q => XS.lshl X.here hx rfl hd rfl q) h
theorem o_lshr (X : Stand p l e R s m args below meth c T locs cells slots) (hx : p.tables.exec = Jvm.exec) {pc pc' : Nat} {Ls : Array Slot} {x : Int64} {y : Int32} {rest : List Value} (hd : decode c.code pc = .ok (.lshr, 1)) (hp : pc + 1 = pc') (h : OG p e below s Q kc ks T (mkF m pc' Ls (.long (x >>> (y &&& 0x3f).toInt64) :: rest))) : OG p e below s Q kc ks T (mkF m pc Ls (.int y :: .long x :: rest)) := by
  subst hp; exact OG.step (fun t q => XS.lshr X.here hx rfl hd rfl q) h
theorem o_lushr (X : Stand p l e R s m args below meth c T locs cells slots) (hx : p.tables.exec = Jvm.exec) {pc pc' : Nat} {Ls : Array Slot} {x : Int64} {y : Int32} {rest : List Value} (hd : decode c.code pc = .ok (.lushr, 1)) (hp : pc + 1 = pc') (h : OG p e below s Q kc ks T (mkF m pc' Ls (.long ((x.toUInt64 >>> (y &&& 0x3f).toInt64.toUInt64).toInt64) :: rest))) : OG p e below s Q kc ks T (mkF m pc Ls (.int y :: .long x :: rest)) := by
  subst hp; exact OG.step (fun t q => XS.lushr X.here hx rfl hd rfl q) h
theorem o_idiv (X : Stand p l e R s m args below meth c T locs cells slots) (hx : p.tables.exec = Jvm.exec) {pc pc' : Nat} {Ls : Array Slot} {x y : Int32} {rest : List Value} (hd : decode c.code pc = .ok (.idiv, 1)) (hy : y ≠ 0) (hp : pc + 1 = pc') (h : OG p e below s Q kc ks T (mkF m pc' Ls (.int (x / y) :: rest))) : OG p e below s Q kc ks T (mkF m pc Ls (.int y :: .int x :: rest)) := by
  subst hp; exact OG.step (fun t q => XS.idiv X.here hx rfl hd rfl hy q) h
theorem o_ldiv (X : Stand p l e R s m args below meth c T locs cells slots) (hx : p.tables.exec = Jvm.exec) {pc pc' : Nat} {Ls : Array Slot} {x y : Int64} {rest : List Value} (hd : decode c.code pc = .ok (.ldiv, 1)) (hy : y ≠ 0) (hp : pc + 1 = pc') (h : OG p e below s Q kc ks T (mkF m pc' Ls (.long (x / y) :: rest))) : OG p e below s Q kc ks T (mkF m pc Ls (.long y :: .long x :: rest)) := by
  subst hp; exact OG.step (fun t q => XS.ldiv X.here hx rfl hd rfl hy q) h
theorem o_irem (X : Stand p l e R s m args below meth c T locs cells slots) (hx : p.tables.exec = Jvm.exec) {pc pc' : Nat} {Ls : Array Slot} {x y : Int32} {rest : List Value} (hd : decode c.code pc = .ok (.irem, 1)) (hy : y ≠ 0) (hp : pc + 1 = pc') (h : OG p e below s Q kc ks T (mkF m pc' Ls (.int (x % y) :: rest))) : OG p e below s Q kc ks T (mkF m pc Ls (.int y :: .int x :: rest)) := by
  subst hp; exact OG.step (fun t q => iremM X hx rfl hd rfl hy q) h
theorem o_lrem (X : Stand p l e R s m args below meth c T locs cells slots) (hx : p.tables.exec = Jvm.exec) {pc pc' : Nat} {Ls : Array Slot} {x y : Int64} {rest : List Value} (hd : decode c.code pc = .ok (.lrem, 1)) (hy : y ≠ 0) (hp : pc + 1 = pc') (h : OG p e below s Q kc ks T (mkF m pc' Ls (.long (x % y) :: rest))) : OG p e below s Q kc ks T (mkF m pc Ls (.long y :: .long x :: rest)) := by
  subst hp; rw [← lrem_mod] at h; exact OG.step (fun t q => XS.lrem X.here hx rfl hd rfl hy q) h
theorem o_ineg (X : Stand p l e R s m args below meth c T locs cells slots) (hx : p.tables.exec = Jvm.exec) {pc pc' : Nat} {Ls : Array Slot} {x : Int32} {rest : List Value} (hd : decode c.code pc = .ok (.ineg, 1)) (hp : pc + 1 = pc') (h : OG p e below s Q kc ks T (mkF m pc' Ls (.int ((-x)) :: rest))) : OG p e below s Q kc ks T (mkF m pc Ls (.int x :: rest)) := by
  subst hp; exact OG.step (fun t q => XS.ineg X.here hx rfl hd rfl q) h
theorem o_lneg (X : Stand p l e R s m args below meth c T locs cells slots) (hx : p.tables.exec = Jvm.exec) {pc pc' : Nat} {Ls : Array Slot} {x : Int64} {rest : List Value} (hd : decode c.code pc = .ok (.lneg, 1)) (hp : pc + 1 = pc') (h : OG p e below s Q kc ks T (mkF m pc' Ls (.long ((-x)) :: rest))) : OG p e below s Q kc ks T (mkF m pc Ls (.long x :: rest)) := by
  subst hp; exact OG.step (fun t q => XS.lneg X.here hx rfl hd rfl q) h
theorem o_i2l (X : Stand p l e R s m args below meth c T locs cells slots) (hx : p.tables.exec = Jvm.exec) {pc pc' : Nat} {Ls : Array Slot} {x : Int32} {rest : List Value} (hd : decode c.code pc = .ok (.i2l, 1)) (hp : pc + 1 = pc') (h : OG p e below s Q kc ks T (mkF m pc' Ls (.long (x.toInt64) :: rest))) : OG p e below s Q kc ks T (mkF m pc Ls (.int x :: rest)) := by
  subst hp; exact OG.step (fun t q => XS.i2l X.here hx rfl hd rfl q) h
theorem o_l2i (X : Stand p l e R s m args below meth c T locs cells slots) (hx : p.tables.exec = Jvm.exec) {pc pc' : Nat} {Ls : Array Slot} {x : Int64} {rest : List Value} (hd : decode c.code pc = .ok (.l2i, 1)) (hp : pc + 1 = pc') (h : OG p e below s Q kc ks T (mkF m pc' Ls (.int (x.toInt32) :: rest))) : OG p e below s Q kc ks T (mkF m pc Ls (.long x :: rest)) := by
  subst hp; exact OG.step (fun t q => XS.l2i X.here hx rfl hd rfl q) h
theorem o_i2b (X : Stand p l e R s m args below meth c T locs cells slots) (hx : p.tables.exec = Jvm.exec) {pc pc' : Nat} {Ls : Array Slot} {x : Int32} {rest : List Value} (hd : decode c.code pc = .ok (.i2b, 1)) (hp : pc + 1 = pc') (h : OG p e below s Q kc ks T (mkF m pc' Ls (.int (x.toInt8.toInt32) :: rest))) : OG p e below s Q kc ks T (mkF m pc Ls (.int x :: rest)) := by
  subst hp; exact OG.step (fun t q => XS.i2b X.here hx rfl hd rfl q) h
theorem o_i2c (X : Stand p l e R s m args below meth c T locs cells slots) (hx : p.tables.exec = Jvm.exec) {pc pc' : Nat} {Ls : Array Slot} {x : Int32} {rest : List Value} (hd : decode c.code pc = .ok (.i2c, 1)) (hp : pc + 1 = pc') (h : OG p e below s Q kc ks T (mkF m pc' Ls (.int (x.toUInt32.toUInt16.toUInt32.toInt32) :: rest))) : OG p e below s Q kc ks T (mkF m pc Ls (.int x :: rest)) := by
  subst hp; exact OG.step (fun t q => XS.i2c X.here hx rfl hd rfl q) h
theorem o_i2s (X : Stand p l e R s m args below meth c T locs cells slots) (hx : p.tables.exec = Jvm.exec) {pc pc' : Nat} {Ls : Array Slot} {x : Int32} {rest : List Value} (hd : decode c.code pc = .ok (.i2s, 1)) (hp : pc + 1 = pc') (h : OG p e below s Q kc ks T (mkF m pc' Ls (.int (x.toInt16.toInt32) :: rest))) : OG p e below s Q kc ks T (mkF m pc Ls (.int x :: rest)) := by
  subst hp; exact OG.step (fun t q => XS.i2s X.here hx rfl hd rfl q) h
theorem o_lcmp (X : Stand p l e R s m args below meth c T locs cells slots) (hx : p.tables.exec = Jvm.exec) {pc pc' : Nat} {Ls : Array Slot} {x y : Int64} {rest : List Value} (hd : decode c.code pc = .ok (.lcmp, 1)) (hp : pc + 1 = pc') (h : OG p e below s Q kc ks T (mkF m pc' Ls (.int (lcmpW x y) :: rest))) : OG p e below s Q kc ks T (mkF m pc Ls (.long y :: .long x :: rest)) := by
  subst hp; exact OG.step (fun t q => XS.lcmp X.here hx rfl hd rfl q) h
theorem o_iconst (X : Stand p l e R s m args below meth c T locs cells slots) (hx : p.tables.exec = Jvm.exec) {pc pc' : Nat} {Ls : Array Slot} {i : Int} {rest : List Value} (hd : decode c.code pc = .ok (.iconst i, 1)) (w : Int32) (hv : Int32.ofInt i = w) (hp : pc + 1 = pc') (h : OG p e below s Q kc ks T (mkF m pc' Ls (.int w :: rest))) : OG p e below s Q kc ks T (mkF m pc Ls (rest)) := by
  subst hp hv; exact OG.step (fun t q => XS.iconst X.here hx rfl hd q) h
theorem o_bipush (X : Stand p l e R s m args below meth c T locs cells slots) (hx : p.tables.exec = Jvm.exec) {pc pc' : Nat} {Ls : Array Slot} {i : Int} {rest : List Value} (hd : decode c.code pc = .ok (.bipush i, 2)) (w : Int32) (hv : (Int8.ofInt i).toInt32 = w) (hp : pc + 2 = pc') (h : OG p e below s Q kc ks T (mkF m pc' Ls (.int w :: rest))) : OG p e below s Q kc ks T (mkF m pc Ls (rest)) := by
  subst hp hv; exact OG.step (fun t q => XS.bipush X.here hx rfl hd q) h
theorem o_sipush (X : Stand p l e R s m args below meth c T locs cells slots) (hx : p.tables.exec = Jvm.exec) {pc pc' : Nat} {Ls : Array Slot} {i : Int} {rest : List Value} (hd : decode c.code pc = .ok (.sipush i, 3)) (w : Int32) (hv : (Int16.ofInt i).toInt32 = w) (hp : pc + 3 = pc') (h : OG p e below s Q kc ks T (mkF m pc' Ls (.int w :: rest))) : OG p e below s Q kc ks T (mkF m pc Ls (rest)) := by
  subst hp hv; exact OG.step (fun t q => XS.sipush X.here hx rfl hd q) h
theorem o_lconst (X : Stand p l e R s m args below meth c T locs cells slots) (hx : p.tables.exec = Jvm.exec) {pc pc' : Nat} {Ls : Array Slot} {i : Fin 2} {rest : List Value} (hd : decode c.code pc = .ok (.lconst i, 1)) (w : Int64) (hv : Int64.ofNat i = w) (hp : pc + 1 = pc') (h : OG p e below s Q kc ks T (mkF m pc' Ls (.long w :: rest))) : OG p e below s Q kc ks T (mkF m pc Ls (rest)) := by
  subst hp hv; exact OG.step (fun t q => XS.lconst X.here hx rfl hd q) h
theorem o_aconst_null (X : Stand p l e R s m args below meth c T locs cells slots) (hx : p.tables.exec = Jvm.exec) {pc pc' : Nat} {Ls : Array Slot} {rest : List Value} (hd : decode c.code pc = .ok (.aconst_null, 1)) (hp : pc + 1 = pc') (h : OG p e below s Q kc ks T (mkF m pc' Ls (.null :: rest))) : OG p e below s Q kc ks T (mkF m pc Ls (rest)) := by
  subst hp; exact OG.step (fun t q => XS.aconstNull X.here hx rfl hd q) h
theorem o_iload_n (X : Stand p l e R s m args below meth c T locs cells slots) (hx : p.tables.exec = Jvm.exec) {pc pc' : Nat} {Ls : Array Slot} {i : Fin 4} {x : Int32} {rest : List Value} (hd : decode c.code pc = .ok (.iload_n i, 1)) (hl : Ls[i.val]? = some (.val (.int x))) (hp : pc + 1 = pc') (h : OG p e below s Q kc ks T (mkF m pc' Ls (.int x :: rest))) : OG p e below s Q kc ks T (mkF m pc Ls (rest)) := by
  subst hp; exact OG.step (fun t q => XS.iloadN X.here hx rfl hd hl q) h
theorem o_iload (X : Stand p l e R s m args below meth c T locs cells slots) (hx : p.tables.exec = Jvm.exec) {pc pc' : Nat} {Ls : Array Slot} {i : Nat} {x : Int32} {rest : List Value} (hd : decode c.code pc = .ok (.iload i, 2)) (hl : Ls[i]? = some (.val (.int x))) (hp : pc + 2 = pc') (h : OG p e below s Q kc ks T (mkF m pc' Ls (.int x :: rest))) : OG p e below s Q kc ks T (mkF m pc Ls (rest)) := by
  subst hp; exact OG.step (fun t q => XS.iload X.here hx rfl hd hl q) h
theorem o_lload_n (X : Stand p l e R s m args below meth c T locs cells slots) (hx : p.tables.exec = Jvm.exec) {pc pc' : Nat} {Ls : Array Slot} {i : Fin 4} {x : Int64} {rest : List Value} (hd : decode c.code pc = .ok (.lload_n i, 1)) (hl : Ls[i.val]? = some (.val (.long x))) (hp : pc + 1 = pc') (h : OG p e below s Q kc ks T (mkF m pc' Ls (.long x :: rest))) : OG p e below s Q kc ks T (mkF m pc Ls (rest)) := by
  subst hp; exact OG.step (fun t q => XS.lloadN X.here hx rfl hd hl q) h
theorem o_lload (X : Stand p l e R s m args below meth c T locs cells slots) (hx : p.tables.exec = Jvm.exec) {pc pc' : Nat} {Ls : Array Slot} {i : Nat} {x : Int64} {rest : List Value} (hd : decode c.code pc = .ok (.lload i, 2)) (hl : Ls[i]? = some (.val (.long x))) (hp : pc + 2 = pc') (h : OG p e below s Q kc ks T (mkF m pc' Ls (.long x :: rest))) : OG p e below s Q kc ks T (mkF m pc Ls (rest)) := by
  subst hp; exact OG.step (fun t q => XS.lload X.here hx rfl hd hl q) h
theorem o_aload_n (X : Stand p l e R s m args below meth c T locs cells slots) (hx : p.tables.exec = Jvm.exec) {pc pc' : Nat} {Ls : Array Slot} {i : Fin 4} {x : Value} {rest : List Value} (hd : decode c.code pc = .ok (.aload_n i, 1)) (hl : Ls[i.val]? = some (.val x)) (hv : x.isRef = true) (hp : pc + 1 = pc') (h : OG p e below s Q kc ks T (mkF m pc' Ls (x :: rest))) : OG p e below s Q kc ks T (mkF m pc Ls (rest)) := by
  subst hp; exact OG.step (fun t q => XS.aloadN X.here hx rfl hd hl hv q) h
theorem o_aload (X : Stand p l e R s m args below meth c T locs cells slots) (hx : p.tables.exec = Jvm.exec) {pc pc' : Nat} {Ls : Array Slot} {i : Nat} {x : Value} {rest : List Value} (hd : decode c.code pc = .ok (.aload i, 2)) (hl : Ls[i]? = some (.val x)) (hv : x.isRef = true) (hp : pc + 2 = pc') (h : OG p e below s Q kc ks T (mkF m pc' Ls (x :: rest))) : OG p e below s Q kc ks T (mkF m pc Ls (rest)) := by
  subst hp; exact OG.step (fun t q => XS.aload X.here hx rfl hd hl hv q) h
theorem o_istore_n (X : Stand p l e R s m args below meth c T locs cells slots) (hx : p.tables.exec = Jvm.exec) {pc pc' : Nat} {Ls : Array Slot} {i : Fin 4} {x : Int32} {rest : List Value} (hd : decode c.code pc = .ok (.istore_n i, 1)) (l' : Array Slot) (hl : storeLocals Ls i.val (.int x) = some l') (hp : pc + 1 = pc') (h : OG p e below s Q kc ks T (mkF m pc' l' (rest))) : OG p e below s Q kc ks T (mkF m pc Ls (.int x :: rest)) := by
  subst hp; exact OG.step (fun t q => XS.istoreN X.here hx rfl hd rfl hl q) h
theorem o_istore (X : Stand p l e R s m args below meth c T locs cells slots) (hx : p.tables.exec = Jvm.exec) {pc pc' : Nat} {Ls : Array Slot} {i : Nat} {x : Int32} {rest : List Value} (hd : decode c.code pc = .ok (.istore i, 2)) (l' : Array Slot) (hl : storeLocals Ls i (.int x) = some l') (hp : pc + 2 = pc') (h : OG p e below s Q kc ks T (mkF m pc' l' (rest))) : OG p e below s Q kc ks T (mkF m pc Ls (.int x :: rest)) := by
  subst hp; exact OG.step (fun t q => XS.istore X.here hx rfl hd rfl hl q) h
theorem o_lstore_n (X : Stand p l e R s m args below meth c T locs cells slots) (hx : p.tables.exec = Jvm.exec) {pc pc' : Nat} {Ls : Array Slot} {i : Fin 4} {x : Int64} {rest : List Value} (hd : decode c.code pc = .ok (.lstore_n i, 1)) (l' : Array Slot) (hl : storeLocals Ls i.val (.long x) = some l') (hp : pc + 1 = pc') (h : OG p e below s Q kc ks T (mkF m pc' l' (rest))) : OG p e below s Q kc ks T (mkF m pc Ls (.long x :: rest)) := by
  subst hp; exact OG.step (fun t q => XS.lstoreN X.here hx rfl hd rfl hl q) h
theorem o_lstore (X : Stand p l e R s m args below meth c T locs cells slots) (hx : p.tables.exec = Jvm.exec) {pc pc' : Nat} {Ls : Array Slot} {i : Nat} {x : Int64} {rest : List Value} (hd : decode c.code pc = .ok (.lstore i, 2)) (l' : Array Slot) (hl : storeLocals Ls i (.long x) = some l') (hp : pc + 2 = pc') (h : OG p e below s Q kc ks T (mkF m pc' l' (rest))) : OG p e below s Q kc ks T (mkF m pc Ls (.long x :: rest)) := by
  subst hp; exact OG.step (fun t q => XS.lstore X.here hx rfl hd rfl hl q) h
theorem o_astore_n (X : Stand p l e R s m args below meth c T locs cells slots) (hx : p.tables.exec = Jvm.exec) {pc pc' : Nat} {Ls : Array Slot} {i : Fin 4} {x : Value} {rest : List Value} (hd : decode c.code pc = .ok (.astore_n i, 1)) (hv : x.isRef = true) (l' : Array Slot) (hl : storeLocals Ls i.val x = some l') (hp : pc + 1 = pc') (h : OG p e below s Q kc ks T (mkF m pc' l' (rest))) : OG p e below s Q kc ks T (mkF m pc Ls (x :: rest)) := by
  subst hp; exact OG.step (fun t q => XS.astoreN X.here hx rfl hd rfl hv hl q) h
theorem o_astore (X : Stand p l e R s m args below meth c T locs cells slots) (hx : p.tables.exec = Jvm.exec) {pc pc' : Nat} {Ls : Array Slot} {i : Nat} {x : Value} {rest : List Value} (hd : decode c.code pc = .ok (.astore i, 2)) (hv : x.isRef = true) (l' : Array Slot) (hl : storeLocals Ls i x = some l') (hp : pc + 2 = pc') (h : OG p e below s Q kc ks T (mkF m pc' l' (rest))) : OG p e below s Q kc ks T (mkF m pc Ls (x :: rest)) := by
  subst hp; exact OG.step (fun t q => XS.astore X.here hx rfl hd rfl hv hl q) h
theorem o_iinc (X : Stand p l e R s m args below meth c T locs cells slots) (hx : p.tables.exec = Jvm.exec) {pc pc' : Nat} {Ls : Array Slot} {i : Nat} {k : Int} {x : Int32} {rest : List Value} (hd : decode c.code pc = .ok (.iinc i k, 3)) (w : Int32) (hw' : Int32.ofInt k = w) (hl : Ls[i]? = some (.val (.int x))) (l' : Array Slot) (hl' : storeLocals Ls i (.int (x + w)) = some l') (hp : pc + 3 = pc') (h : OG p e below s Q kc ks T (mkF m pc' l' (rest))) : OG p e below s Q kc ks T (mkF m pc Ls (rest)) := by
  subst hp hw'; exact OG.step (fun t q => XS.iinc X.here hx rfl hd hl hl' q) h
theorem o_dup (X : Stand p l e R s m args below meth c T locs cells slots) (hx : p.tables.exec = Jvm.exec) {pc pc' : Nat} {Ls : Array Slot} {x : Value} {rest : List Value} (hd : decode c.code pc = .ok (.dup, 1)) (hc : x.category = 1) (hp : pc + 1 = pc') (h : OG p e below s Q kc ks T (mkF m pc' Ls (x :: x :: rest))) : OG p e below s Q kc ks T (mkF m pc Ls (x :: rest)) := by
  subst hp; exact OG.step (fun t q => XS.dup X.here hx rfl hd rfl hc q) h
theorem o_pop (X : Stand p l e R s m args below meth c T locs cells slots) (hx : p.tables.exec = Jvm.exec) {pc pc' : Nat} {Ls : Array Slot} {x : Value} {rest : List Value} (hd : decode c.code pc = .ok (.pop, 1)) (hc : x.category = 1) (hp : pc + 1 = pc') (h : OG p e below s Q kc ks T (mkF m pc' Ls (rest))) : OG p e below s Q kc ks T (mkF m pc Ls (x :: rest)) := by
  subst hp; exact OG.step (fun t q => XS.pop X.here hx rfl hd rfl hc q) h
theorem o_dup_x1 (X : Stand p l e R s m args below meth c T locs cells slots) (hx : p.tables.exec = Jvm.exec) {pc pc' : Nat} {Ls : Array Slot} {x y : Value} {rest : List Value} (hd : decode c.code pc = .ok (.dup_x1, 1)) (hc : x.category = 1) (hc2 : y.category = 1) (hp : pc + 1 = pc') (h : OG p e below s Q kc ks T (mkF m pc' Ls (x :: y :: x :: rest))) : OG p e below s Q kc ks T (mkF m pc Ls (x :: y :: rest)) := by
  subst hp; exact OG.step (fun t q => XS.dupX1 X.here hx rfl hd rfl hc hc2 q) h
theorem o_goto (X : Stand p l e R s m args below meth c T locs cells slots) (hx : p.tables.exec = Jvm.exec) {pc pc' : Nat} {Ls : Array Slot} {rest : List Value} {o : Int} (hd : decode c.code pc = .ok (.goto o, 3)) (ho : 0 ≤ (pc : Int) + o) (hp : ((pc : Int) + o).toNat = pc') (h : OG p e below s Q kc ks T (mkF m pc' Ls rest)) : OG p e below s Q kc ks T (mkF m pc Ls rest) :=
  OG.step (fun t q => XS.goto X.here hx rfl rfl hd ho hp q) h
theorem o_ifYes (X : Stand p l e R s m args below meth c T locs cells slots) (hx : p.tables.exec = Jvm.exec) {pc pc' : Nat} {Ls : Array Slot} {rest : List Value} {o : Int} {cd : ClassFile.Cond} {x : Int32} (hd : decode c.code pc = .ok (.ifCond cd o, 3)) (hc : ifCond.holds cd x = true) (ho : 0 ≤ (pc : Int) + o) (hp : ((pc : Int) + o).toNat = pc') (h : OG p e below s Q kc ks T (mkF m pc' Ls rest)) : OG p e below s Q kc ks T (mkF m pc Ls (.int x :: rest)) :=
  OG.step (fun t q => XS.ifYes X.here hx rfl rfl hd rfl hc ho hp q) h
theorem o_ifNo (X : Stand p l e R s m args below meth c T locs cells slots) (hx : p.tables.exec = Jvm.exec) {pc pc' : Nat} {Ls : Array Slot} {rest : List Value} {o : Int} {cd : ClassFile.Cond} {x : Int32} (hd : decode c.code pc = .ok (.ifCond cd o, 3)) (hc : ifCond.holds cd x = false) (hp : pc + 3 = pc') (h : OG p e below s Q kc ks T (mkF m pc' Ls rest)) : OG p e below s Q kc ks T (mkF m pc Ls (.int x :: rest)) := by
  subst hp; exact OG.step (fun t q => XS.ifNo X.here hx rfl hd rfl hc q) h
theorem o_icmpYes (X : Stand p l e R s m args below meth c T locs cells slots) (hx : p.tables.exec = Jvm.exec) {pc pc' : Nat} {Ls : Array Slot} {rest : List Value} {o : Int} {cd : ClassFile.Cond} {x y : Int32} (hd : decode c.code pc = .ok (.if_icmp cd o, 3)) (hc : if_icmp.holds cd x y = true) (ho : 0 ≤ (pc : Int) + o) (hp : ((pc : Int) + o).toNat = pc') (h : OG p e below s Q kc ks T (mkF m pc' Ls rest)) : OG p e below s Q kc ks T (mkF m pc Ls (.int y :: .int x :: rest)) :=
  OG.step (fun t q => XS.icmpYes X.here hx rfl rfl hd rfl hc ho hp q) h
theorem o_icmpNo (X : Stand p l e R s m args below meth c T locs cells slots) (hx : p.tables.exec = Jvm.exec) {pc pc' : Nat} {Ls : Array Slot} {rest : List Value} {o : Int} {cd : ClassFile.Cond} {x y : Int32} (hd : decode c.code pc = .ok (.if_icmp cd o, 3)) (hc : if_icmp.holds cd x y = false) (hp : pc + 3 = pc') (h : OG p e below s Q kc ks T (mkF m pc' Ls rest)) : OG p e below s Q kc ks T (mkF m pc Ls (.int y :: .int x :: rest)) := by
  subst hp; exact OG.step (fun t q => XS.icmpNo X.here hx rfl hd rfl hc q) h
theorem o_ifnonnullYes (X : Stand p l e R s m args below meth c T locs cells slots) (hx : p.tables.exec = Jvm.exec) {pc pc' : Nat} {Ls : Array Slot} {rest : List Value} {o : Int} {b : Addr} (hd : decode c.code pc = .ok (.ifnonnull o, 3)) (ho : 0 ≤ (pc : Int) + o) (hp : ((pc : Int) + o).toNat = pc') (h : OG p e below s Q kc ks T (mkF m pc' Ls rest)) : OG p e below s Q kc ks T (mkF m pc Ls (.ref b :: rest)) :=
  OG.step (fun t q => XS.ifnonnullYes X.here hx rfl rfl hd rfl ho hp q) h
theorem o_ifnonnullNo (X : Stand p l e R s m args below meth c T locs cells slots) (hx : p.tables.exec = Jvm.exec) {pc pc' : Nat} {Ls : Array Slot} {rest : List Value} {o : Int} (hd : decode c.code pc = .ok (.ifnonnull o, 3)) (hp : pc + 3 = pc') (h : OG p e below s Q kc ks T (mkF m pc' Ls rest)) : OG p e below s Q kc ks T (mkF m pc Ls (.null :: rest)) := by
  subst hp; exact OG.step (fun t q => XS.ifnonnullNo X.here hx rfl hd rfl q) h
theorem o_ldcInt (X : Stand p l e R s m args below meth c T locs cells slots) (hx : p.tables.exec = Jvm.exec) {pc pc' : Nat} {Ls : Array Slot} {rest : List Value} {Z : State} {a0 : Array Value} {own : String} {i : Nat} {v : Int32} (hZ : Z.Warmed39 s.vm) (hown : s.vm.findClass own = some m.cls) (hd : decode c.code pc = .ok (.ldc i, 2)) (hk : (Cond.constant own i v).before a0 Z = true) (hp : pc + 2 = pc') (h : OG p e below s Q kc ks T (mkF m pc' Ls (.int v :: rest))) : OG p e below s Q kc ks T (mkF m pc Ls rest) := by
  subst hp; exact OG.step (fun t q => X.ldcInt hx hown (mvT hZ hk) (g := mkF m pc Ls rest) rfl hd t q) h
theorem o_ldc2Long (X : Stand p l e R s m args below meth c T locs cells slots) (hx : p.tables.exec = Jvm.exec) {pc pc' : Nat} {Ls : Array Slot} {rest : List Value} {Z : State} {a0 : Array Value} {own : String} {i : Nat} {v : Int64} (hZ : Z.Warmed39 s.vm) (hown : s.vm.findClass own = some m.cls) (hd : decode c.code pc = .ok (.ldc2_w i, 3)) (hk : (Cond.constantLong own i v).before a0 Z = true) (hp : pc + 3 = pc') (h : OG p e below s Q kc ks T (mkF m pc' Ls (.long v :: rest))) : OG p e below s Q kc ks T (mkF m pc Ls rest) := by
  subst hp; exact OG.step (fun t q => X.ldc2Long hx hown (mvT hZ hk) (g := mkF m pc Ls rest) rfl hd t q) h
theorem o_retI (X : Stand p l e R s m args below meth c T locs cells slots) (hx : p.tables.exec = Jvm.exec) (hlk : meth.locks = false) {pc : Nat} {Ls : Array Slot} {rest : List Value} {z : Int32} (hret : meth.sig.returnType = some .int) (hd : decode c.code pc = .ok (.ireturn, 1)) (hQ : Q (some (.int z)) T.heap locs) (h1 : cells ≤ kc) (h2 : slots ≤ ks) : OG p e below s Q kc ks T (mkF m pc Ls (.int z :: rest)) := by
  obtain ⟨fs, hr, hrun, hended, hW, hsame⟩ := X.leave (v := some (.int z)) (fun h => by rw [hret] at h; cases h) hlk
  exact ⟨_, _, retI X hx hret hd hr, hrun, hended, _, _, rfl, hQ, ⟨_, rfl⟩, hW, hsame.mono h1 h2⟩
theorem o_retJ (X : Stand p l e R s m args below meth c T locs cells slots) (hx : p.tables.exec = Jvm.exec) (hlk : meth.locks = false) {pc : Nat} {Ls : Array Slot} {rest : List Value} {z : Int64} (hret : meth.sig.returnType = some .long) (hd : decode c.code pc = .ok (.lreturn, 1)) (hQ : Q (some (.long z)) T.heap locs) (h1 : cells ≤ kc) (h2 : slots ≤ ks) : OG p e below s Q kc ks T (mkF m pc Ls (.long z :: rest)) := by
  obtain ⟨fs, hr, hrun, hended, hW, hsame⟩ := X.leave (v := some (.long z)) (fun h => by rw [hret] at h; cases h) hlk
  exact ⟨_, _, retJ X hx hret hd hr, hrun, hended, _, _, rfl, hQ, ⟨_, rfl⟩, hW, hsame.mono h1 h2⟩
theorem o_retN (X : Stand p l e R s m args below meth c T locs cells slots) (hx : p.tables.exec = Jvm.exec) (hlk : meth.locks = false) {pc : Nat} {Ls : Array Slot} {rest : List Value} {z w : Int32} {t : FieldType} (ht : t = .boolean ∨ t = .byte ∨ t = .char ∨ t = .short) (hret : meth.sig.returnType = some t) (hd : decode c.code pc = .ok (.ireturn, 1)) (hz : nar t z = w) (hQ : Q (some (.int w)) T.heap locs) (h1 : cells ≤ kc) (h2 : slots ≤ ks) : OG p e below s Q kc ks T (mkF m pc Ls (.int z :: rest)) := by
  subst hz
  obtain ⟨fs, hr, hrun, hended, hW, hsame⟩ := X.leave (v := some (.int (nar t z))) (fun h => by rw [hret] at h; cases h) hlk
  exact ⟨_, _, retN X hx hret ht hd hr, hrun, hended, _, _, rfl, hQ, ⟨_, rfl⟩, hW, hsame.mono h1 h2⟩
theorem o_ret (X : Stand p l e R s m args below meth c T locs cells slots) (hx : p.tables.exec = Jvm.exec) (hlk : meth.locks = false) {pc : Nat} {Ls : Array Slot} (hret : meth.sig.returnType = none) (hd : decode c.code pc = .ok (.return_, 1)) (hQ : Q none T.heap locs) (h1 : cells ≤ kc) (h2 : slots ≤ ks) : OG p e below s Q kc ks T (mkF m pc Ls []) := by
  obtain ⟨fs, hr, hrun, hended, hW, hsame⟩ := X.leave (v := none) (fun _ => rfl) hlk
  exact ⟨_, _, X.returnOut hx hret hd hr, hrun, hended, _, _, rfl, hQ, ⟨_, rfl⟩, hW, hsame.mono h1 h2⟩
variable {Z : State} {a0 : Array Value} {h : Heap}
theorem o_callS (X : Stand p l e R s m args below meth c T locs cells slots) (hx : p.tables.exec = Jvm.exec) (hZ : Z.Warmed39 s.vm) {own : String} {index : Nat} {y : MethodName} {bytes : ByteArray} {maxL : Nat} {ret : Option FieldType} {rm : Room} {Qc : Option Value → Heap → List Loc → Prop} {argsL rest st : List Value} {pc pc' : Nat} {Ls : Array Slot} (W : Nat)
    (hown : s.vm.findClass own = some m.cls) (eT : T.heap = h) (hlink : (Cond.methodLink own index y).before a0 Z = true) (hstat : (Cond.static y).before a0 Z = true) (hinit : (Cond.initialized y.cls).before a0 Z = true) (hcode : (Cond.code y bytes maxL ret).before a0 Z = true) (hy : y.cls ≠ "java/lang/invoke/MethodHandle" ∧ y.cls ≠ "java/lang/invoke/VarHandle")
    (hM : MetFree l y (head1 [Cond.code y bytes maxL ret] rm) (fun a U => a = argsL.toArray ∧ Z.Warmed39 U.vm ∧ U.heap = h) (fun _ _ _ _ _ => True) (fun _ U o U' => ∃ v L, o = .returned v ∧ Qc v U'.heap L ∧ FrameEnd U o U' L rm.cells rm.slots)) (hf : rm.frames + 1 ≤ R.frames) (hl : W + (maxL + 11) + rm.locals ≤ R.locals)
    (hsize : Ls.size = c.maxLocals) (hlen : ∀ sig, parseMethodDescriptor y.desc = some sig → argsL.length = sig.parameters.length) (hs : st = argsL.reverse ++ rest) (hW : (rest.map fun v => v.category).sum ≤ W) (hd : decode c.code pc = .ok (.invokestatic index, 3)) (hp : pc + 3 = pc') (hc : cells + rm.cells ≤ R.cells) (hsl : slots + rm.slots ≤ R.slots)
    (k : ∀ v T' L, Stand p l e R s m args below meth c T' (locs ++ L) (cells + rm.cells) (slots + rm.slots) → Qc v T'.heap L → OG p e below s Q kc ks T' (mkF m pc' Ls (v.toList ++ rest))) : OG p e below s Q kc ks T (mkF m pc Ls st) := by
  subst hp hs
  obtain ⟨v, vm₁, ⟨T1, L1, c1, n1⟩, -, X1, ⟨Lc, hQ, l1, y1, z1⟩, st⟩ := Jvm.LawKit.callS X hx (y := y) hown (mvT hZ hlink) (mvT hZ hstat) (mvT hZ hinit) (mvT hZ hcode) hy (backOf (W := W) hM hZ hcode hinit hf hl) (g := mkF m pc Ls (argsL.reverse ++ rest)) rfl hsize (argsL := argsL) (rest := rest) hlen rfl (by show 2 * 0 + _ ≤ _; omega) hd (fun _ _ => ⟨rfl, eT, hc, hsl⟩)
  dsimp only [Pt.U, Pt.locs, Pt.cells, Pt.slots] at X1 l1 y1 z1 st hQ
  subst l1 y1 z1
  exact OG.step st (k v T1 Lc X1 hQ)
theorem o_special (X : Stand p l e R s m args below meth c T locs cells slots) (hx : p.tables.exec = Jvm.exec) (hZ : Z.Warmed39 s.vm) {own : String} {index : Nat} {y : MethodName} {bytes : ByteArray} {maxL : Nat} {rm : Room} {Qc : Option Value → Heap → List Loc → Prop} {a : Addr} {argsL rest st : List Value} {pc pc' : Nat} {Ls : Array Slot} (W : Nat) (hy1 : y.name = "<init>")
    (hown : s.vm.findClass own = some m.cls) (eT : T.heap = h) (hlink : (Cond.methodLink own index y).before a0 Z = true) (hinst : (Cond.instanceMethod y).before a0 Z = true) (hinit : (Cond.initialized y.cls).before a0 Z = true) (hcode : (Cond.code y bytes maxL none).before a0 Z = true) (hy : y.cls ≠ "java/lang/invoke/MethodHandle" ∧ y.cls ≠ "java/lang/invoke/VarHandle")
    (hM : MetFree l y (head1 [Cond.code y bytes maxL none] rm) (fun b U => b = (.ref a :: argsL).toArray ∧ Z.Warmed39 U.vm ∧ U.heap = h) (fun _ _ _ _ _ => True) (fun _ U o U' => ∃ v L, o = .returned v ∧ Qc v U'.heap L ∧ FrameEnd U o U' L rm.cells rm.slots)) (hf : rm.frames + 1 ≤ R.frames) (hl : W + (maxL + 11) + rm.locals ≤ R.locals)
    (hsize : Ls.size = c.maxLocals) (hlen : ∀ sig, parseMethodDescriptor y.desc = some sig → argsL.length = sig.parameters.length) (hs : st = argsL.reverse ++ .ref a :: rest) (hW : (rest.map fun v => v.category).sum ≤ W) (hd : decode c.code pc = .ok (.invokespecial index, 3)) (hp : pc + 3 = pc') (hc : cells + rm.cells ≤ R.cells) (hsl : slots + rm.slots ≤ R.slots)
    (k : ∀ v T' L, Stand p l e R s m args below meth c T' (locs ++ L) (cells + rm.cells) (slots + rm.slots) → Qc v T'.heap L → OG p e below s Q kc ks T' (mkF m pc' Ls (v.toList ++ rest))) : OG p e below s Q kc ks T (mkF m pc Ls st) := by
  subst hp hs
  obtain ⟨v, vm₁, ⟨T1, L1, c1, n1⟩, -, X1, ⟨Lc, hQ, l1, y1, z1⟩, st⟩ := X.specialBack hx (y := y) hy1 hown (mvT hZ hlink) (mvT hZ hinst) (mvT hZ hcode) hy (backOf (W := W) hM hZ hcode hinit hf hl) (g := mkF m pc Ls (argsL.reverse ++ .ref a :: rest)) rfl hsize (Steps.refl _) (a := a) (argsL := argsL) (rest := rest) hlen rfl (by show 2 * 0 + _ ≤ _; omega) hd (fun _ _ => ⟨rfl, eT, hc, hsl⟩)
  dsimp only [Pt.U, Pt.locs, Pt.cells, Pt.slots] at X1 l1 y1 z1 st hQ
  subst l1 y1 z1
  exact OG.step (fun t q => st.trans q) (k v T1 Lc X1 hQ)
theorem o_virtual (X : Stand p l e R s m args below meth c T locs cells slots) (hx : p.tables.exec = Jvm.exec) (hZ : Z.Warmed39 s.vm) {own C : String} {index : Nat} {y : MethodName} {bytes : ByteArray} {maxL : Nat} {ret : Option FieldType} {rm : Room} {Qc : Option Value → Heap → List Loc → Prop} {a : Addr} {argsL rest st : List Value} {pc pc' : Nat} {Ls : Array Slot} (W : Nat)
    (hown : s.vm.findClass own = some m.cls) (eT : T.heap = h) (hlink : (Cond.methodLink own index y).before a0 Z = true) (hdecl : (Cond.declares y).before a0 Z = true) (hsel : (Cond.selects C y y).before a0 Z = true) (hinst : (Cond.instanceMethod y).before a0 Z = true) (hinit : (Cond.initialized y.cls).before a0 Z = true) (hcode : (Cond.code y bytes maxL ret).before a0 Z = true) (hy : y.cls ≠ "java/lang/invoke/MethodHandle" ∧ y.cls ≠ "java/lang/invoke/VarHandle")
    (E : Exa Z h a C)
    (hM : MetFree l y (head1 [Cond.code y bytes maxL ret] rm) (fun b U => b = (.ref a :: argsL).toArray ∧ Z.Warmed39 U.vm ∧ U.heap = h) (fun _ _ _ _ _ => True) (fun _ U o U' => ∃ v L, o = .returned v ∧ Qc v U'.heap L ∧ FrameEnd U o U' L rm.cells rm.slots)) (hf : rm.frames + 1 ≤ R.frames) (hl : W + (maxL + 11) + rm.locals ≤ R.locals)
    (hsize : Ls.size = c.maxLocals) (hlen : ∀ sig, parseMethodDescriptor y.desc = some sig → argsL.length = sig.parameters.length) (hs : st = argsL.reverse ++ .ref a :: rest) (hW : (rest.map fun v => v.category).sum ≤ W) (hd : decode c.code pc = .ok (.invokevirtual index, 3)) (hp : pc + 3 = pc') (hc : cells + rm.cells ≤ R.cells) (hsl : slots + rm.slots ≤ R.slots)
    (k : ∀ v T' L, Stand p l e R s m args below meth c T' (locs ++ L) (cells + rm.cells) (slots + rm.slots) → Qc v T'.heap L → OG p e below s Q kc ks T' (mkF m pc' Ls (v.toList ++ rest))) : OG p e below s Q kc ks T (mkF m pc Ls st) := by
  subst hp hs
  obtain ⟨cq, kq, qa, qb, qc⟩ := isOf hZ eT E
  obtain ⟨v, vm₁, ⟨T1, L1, c1, n1⟩, -, X1, ⟨Lc, hQ, l1, y1, z1⟩, st⟩ := X.virtualBack hx (y := y) (z := y) hown (mvT hZ hlink) (mvT hZ hdecl) (notFace_of_selects (args := #[]) (mvT hZ hsel)) (mvT hZ hsel) (mvT hZ hinst) hy (backOf (W := W) hM hZ hcode hinit hf hl) qa qc (g := mkF m pc Ls (argsL.reverse ++ .ref a :: rest)) rfl hsize (Steps.refl _) (argsL := argsL) (rest := rest) hlen rfl (by show 2 * 0 + _ ≤ _; omega) hd (fun _ _ => ⟨rfl, eT, hc, hsl⟩)
  dsimp only [Pt.U, Pt.locs, Pt.cells, Pt.slots] at X1 l1 y1 z1 st hQ
  subst l1 y1 z1
  exact OG.step (fun t q => st.trans q) (k v T1 Lc X1 hQ)
theorem o_new (X : Stand p l e R s m args below meth c T locs cells slots) (hx : p.tables.exec = Jvm.exec) (hZ : Z.Warmed39 s.vm) {own C : String} {index n : Nat} {pc pc' : Nat} {Ls : Array Slot} {rest : List Value} (hown : s.vm.findClass own = some m.cls) (eT : T.heap = h) (w : (Cond.classLink own index C).before a0 Z = true) (wi : (Cond.instantiable C n).before a0 Z = true) (wz : (Cond.initialized C).before a0 Z = true) (hd : decode c.code pc = .ok (.new index, 3)) (hp : pc + 3 = pc') (hc : cells + 1 ≤ R.cells) (hl : slots + n ≤ R.slots)
    (k : ∀ T' h' a, Stand p l e R s m args below meth c T' locs (cells + 1) (slots + n) → T'.heap = h' → a = h.size → Ext h h' → Exa Z h' a C → (∀ {O nm d : String} {ty : FieldType}, Laid Z a0 C O nm d → parseFieldDescriptor d = some ty → Fld Z h' a O nm d (defaultValue ty)) → OG p e below s Q kc ks T' (mkF m pc' Ls (.ref a :: rest))) : OG p e below s Q kc ks T (mkF m pc Ls rest) := by
  subst hp
  obtain ⟨T2, h2, X2, e2, E2, A2, D2, -, st2⟩ := newO X hx hZ hown w wi wz eT (g := mkF m pc Ls rest) rfl hd hc hl
  exact OG.step st2 (k T2 h2 _ X2 e2 rfl E2 A2 D2)
theorem o_initO (X : Stand p l e R s m args below meth c T locs cells slots) (hx : p.tables.exec = Jvm.exec) (hZ : Z.Warmed39 s.vm) {own : String} {index : Nat} {a : Addr} {pc pc' : Nat} {Ls : Array Slot} {rest : List Value} (W : Nat) (hown : s.vm.findClass own = some m.cls) (eT : T.heap = h)
    (w1 : (Cond.methodLink own index Lib.objectInit).before a0 Z = true) (w2 : (Cond.instanceMethod Lib.objectInit).before a0 Z = true) (w3 : (Cond.code Lib.objectInit object_method_1_code 1 none).before a0 Z = true) (hsize : Ls.size = c.maxLocals) (hd : decode c.code pc = .ok (.invokespecial index, 3)) (hf : 1 ≤ R.frames) (hW : (rest.map fun v => v.category).sum ≤ W) (hl : W + 12 ≤ R.locals) (hp : pc + 3 = pc')
    (k : ∀ T', Stand p l e R s m args below meth c T' locs cells slots → T'.heap = h → OG p e below s Q kc ks T' (mkF m pc' Ls rest)) : OG p e below s Q kc ks T (mkF m pc Ls (.ref a :: rest)) := by
  subst hp
  obtain ⟨T1, X1, e1, st1⟩ := initO X hx hZ hown w1 w2 w3 eT (g := mkF m pc Ls (.ref a :: rest)) rfl hsize rfl hd hf (W := W) (by show 2 * 0 + _ ≤ _; omega) hl
  exact OG.step st1 (k T1 X1 e1)
theorem o_getF (X : Stand p l e R s m args below meth c T locs cells slots) (hx : p.tables.exec = Jvm.exec) (hZ : Z.Warmed39 s.vm) {own R0 O n d : String} {index : Nat} {a : Addr} {v : Value} {pc pc' : Nat} {Ls : Array Slot} {rest : List Value} (hown : s.vm.findClass own = some m.cls) (eT : T.heap = h) (w : (Cond.fieldLink own index R0 n d).before a0 Z = true) (via : Via Z R0 O n d) (F : Fld Z h a O n d v) (hd : decode c.code pc = .ok (.getfield index, 3)) (hp : pc + 3 = pc')
    (k : ∀ T', Stand p l e R s m args below meth c T' locs cells slots → T'.heap = h → OG p e below s Q kc ks T' (mkF m pc' Ls (v :: rest))) : OG p e below s Q kc ks T (mkF m pc Ls (.ref a :: rest)) := by
  subst hp
  obtain ⟨T1, X1, e1, st1⟩ := getF X hx hZ hown (host := "") (Or.inl w) via eT F (g := mkF m pc Ls (.ref a :: rest)) rfl rfl hd
  exact OG.step st1 (k T1 X1 e1)
theorem o_putF (X : Stand p l e R s m args below meth c T locs cells slots) (hx : p.tables.exec = Jvm.exec) (hZ : Z.Warmed39 s.vm) {own R0 O n d C : String} {index kk : Nat} {ty : FieldType} {a : Addr} {v old : Value} {pc pc' : Nat} {Ls : Array Slot} {rest : List Value} (hown : s.vm.findClass own = some m.cls) (eT : T.heap = h) (w : (Cond.fieldLink own index R0 n d).before a0 Z = true) (via : Via Z R0 O n d) (F : Fld Z h a O n d old) (E : Exa Z h a C)
    (L : (Cond.lays C O n d).before a0 Z = true ∨ ((Cond.laysFinal C O n d).before a0 Z = true ∧ own = O ∧ meth.name = "<init>")) (wi : (Cond.instantiable C kk).before a0 Z = true) (hty : parseFieldDescriptor d = some ty) (hn : narrow ty v = v) (hf : fits ty v = true) (hd : decode c.code pc = .ok (.putfield index, 3)) (hp : pc + 3 = pc')
    (k : ∀ T' h', Stand p l e R s m args below meth c T' (locs ++ [⟨a, RoadKit.slotOf Z O n d⟩]) cells slots → T'.heap = h' → Wr h h' a (RoadKit.slotOf Z O n d) v → OG p e below s Q kc ks T' (mkF m pc' Ls rest)) : OG p e below s Q kc ks T (mkF m pc Ls (v :: .ref a :: rest)) := by
  subst hp
  obtain ⟨T1, h1, X1, e1, W1, st1⟩ := putF X hx hZ hown (host := "") (Or.inl w) via eT F E L wi hty hn hf (g := mkF m pc Ls (v :: .ref a :: rest)) rfl rfl hd
  exact OG.step st1 (k T1 h1 X1 e1 W1)
theorem z_tlt {x : Int32} (h : x < 0) : ifCond.holds .lt x = true ∧ ifCond.holds .ge x = false := ⟨(if0 _ _).trans (tlt h).1, (if0 _ _).trans (tlt h).2.1⟩
theorem z_flt {x : Int32} (h : ¬ x < 0) : ifCond.holds .lt x = false ∧ ifCond.holds .ge x = true := ⟨(if0 _ _).trans (flt h).1, (if0 _ _).trans (flt h).2.1⟩
theorem z_tgt {x : Int32} (h : 0 < x) : ifCond.holds .gt x = true ∧ ifCond.holds .le x = false := ⟨(if0 _ _).trans (tlt h).2.2.1, (if0 _ _).trans (tlt h).2.2.2⟩
theorem z_fgt {x : Int32} (h : ¬ 0 < x) : ifCond.holds .gt x = false ∧ ifCond.holds .le x = true := ⟨(if0 _ _).trans (flt h).2.2.1, (if0 _ _).trans (flt h).2.2.2⟩
theorem z_teq {x : Int32} (h : x = 0) : ifCond.holds .eq x = true ∧ ifCond.holds .ne x = false := ⟨(if0 _ _).trans (teq h).1, (if0 _ _).trans (teq h).2⟩
theorem z_feq {x : Int32} (h : ¬ x = 0) : ifCond.holds .eq x = false ∧ ifCond.holds .ne x = true := ⟨(if0 _ _).trans (feq h).1, (if0 _ _).trans (feq h).2⟩
theorem c_tlt {x y : Int32} (h : x < y) : if_icmp.holds .lt x y = true ∧ if_icmp.holds .ge x y = false := ⟨(tlt h).1, (tlt h).2.1⟩
theorem c_flt {x y : Int32} (h : ¬ x < y) : if_icmp.holds .lt x y = false ∧ if_icmp.holds .ge x y = true := ⟨(flt h).1, (flt h).2.1⟩
theorem c_tgt {x y : Int32} (h : y < x) : if_icmp.holds .gt x y = true ∧ if_icmp.holds .le x y = false := ⟨(tlt h).2.2.1, (tlt h).2.2.2⟩
theorem c_fgt {x y : Int32} (h : ¬ y < x) : if_icmp.holds .gt x y = false ∧ if_icmp.holds .le x y = true := ⟨(flt h).2.2.1, (flt h).2.2.2⟩
theorem c_teq {x y : Int32} (h : x = y) : if_icmp.holds .eq x y = true ∧ if_icmp.holds .ne x y = false := teq h
theorem c_feq {x y : Int32} (h : ¬ x = y) : if_icmp.holds .eq x y = false ∧ if_icmp.holds .ne x y = true := feq h
theorem l_tlt {x y : Int64} (h : x < y) : ifCond.holds .lt (lcmpW x y) = true ∧ ifCond.holds .ge (lcmpW x y) = false := z_tlt ((lw_lt x y).mpr h)
theorem l_flt {x y : Int64} (h : ¬ x < y) : ifCond.holds .lt (lcmpW x y) = false ∧ ifCond.holds .ge (lcmpW x y) = true := z_flt (fun q => h ((lw_lt x y).mp q))
theorem l_tgt {x y : Int64} (h : y < x) : ifCond.holds .gt (lcmpW x y) = true ∧ ifCond.holds .le (lcmpW x y) = false := z_tgt ((lw_gt x y).mpr h)
theorem l_fgt {x y : Int64} (h : ¬ y < x) : ifCond.holds .gt (lcmpW x y) = false ∧ ifCond.holds .le (lcmpW x y) = true := z_fgt (fun q => h ((lw_gt x y).mp q))
theorem l_teq {x y : Int64} (h : x = y) : ifCond.holds .eq (lcmpW x y) = true ∧ ifCond.holds .ne (lcmpW x y) = false := z_teq ((lw_eq x y).mpr h)
theorem l_feq {x y : Int64} (h : ¬ x = y) : ifCond.holds .eq (lcmpW x y) = false ∧ ifCond.holds .ne (lcmpW x y) = true := z_feq (fun q => h ((lw_eq x y).mp q))
end Own
section OwnA
variable {p : Program} {l : Launch} {e : Env} {R : Room} {s : State} {m : MethodId} {args : Array Value} {below : List Frame} {meth : Method} {c : Code} {T : State} {locs : List Loc} {cells slots : Nat} {Q : Option Value → Heap → List Loc → Prop} {kc ks : Nat} {Z : State} {a0 : Array Value} {h h' : Heap} {a b : Addr} {ty : FieldType} {n : Nat} {f : Nat → Value}
/-- an array of n values: the i-th is f i -/
def OAr (Z : State) (h : Heap) (a : Addr) (ty : FieldType) (n : Nat) (f : Nat → Value) : Prop := ∃ c : Cell, Arr Z h a c ty ∧ c.slots.size = n ∧ ∀ i, i < n → c.slots[i]? = some (f i)
theorem OAr.ext (E : Ext h h') (F : OAr Z h b ty n f) : OAr Z h' b ty n f := by obtain ⟨c, A, r⟩ := F; exact ⟨c, A.ext E, r⟩
theorem OAr.other {sl : Nat} {v : Value} (W : Wr h h' a sl v) (F : OAr Z h b ty n f) (q : b ≠ a) : OAr Z h' b ty n f := by obtain ⟨c, A, r⟩ := F; exact ⟨c, A.other W q, r⟩
theorem OAr.keep {ws : List Addr} (F : OAr Z h b ty n f) (K : Keep h h' ws) (q : b ∉ ws) : OAr Z h' b ty n f := by obtain ⟨c, A, r⟩ := F; exact ⟨c, ⟨K.2.1 b c A.1 q, A.2⟩, r⟩
theorem OAr.lt (F : OAr Z h a ty n f) : a < h.size := by obtain ⟨c, A, -⟩ := F; exact A.lt
theorem OAr.cg {g : Nat → Value} (F : OAr Z h a ty n f) (q : ∀ i, i < n → g i = f i) : OAr Z h a ty n g := by obtain ⟨c, A, r, H⟩ := F; exact ⟨c, A, r, fun i hi => by rw [q i hi]; exact H i hi⟩
theorem OAr.same {j : Nat} {v : Value} (W : Wr h h' a j v) (F : OAr Z h a ty n f) : OAr Z h' a ty n (fun i => if i = j then v else f i) := by
  obtain ⟨c, A, r, H⟩ := F
  refine ⟨_, Arr.same W A, by simp [Cell.setSlot, r], fun i hi => ?_⟩
  obtain ⟨c', h1, -, h3, -⟩ := W
  have hlt : j < c.slots.size := by have := h1.symm.trans A.1; cases this; exact h3
  simp only [Cell.setSlot]
  rw [Array.getElem?_setIfInBounds]
  by_cases q : j = i
  · subst q; simp [hlt]
  · rw [if_neg q, if_neg (fun z => q z.symm)]; exact H i hi
theorem OAr.new {k : ClassId} {z : Int32} (A : Arr Z h a (newA k ty z) ty) : OAr Z h a ty z.toNatClampNeg (fun _ => defaultValue ty) :=
  ⟨_, A, sz_new _ _ _, fun i hi => by simp [newA, hi]⟩
/-- the first values by a list -/
def lk (vs : List Value) (k : Nat) : Value := vs.getD k .null
theorem OAr.setL {vs : List Value} {j : Nat} {v : Value} (W : Wr h h' a j v) (F : OAr Z h a ty n (lk vs)) (hj : j < vs.length) : OAr Z h' a ty n (lk (vs.set j v)) :=
  (OAr.same W F).cg fun i hi => by
    unfold lk
    by_cases q : i = j
    · subst q; simp [hj]
    · simp only [List.getD_eq_getElem?_getD, List.getElem?_set, if_neg q, if_neg (fun z : j = i => q z.symm)]
theorem o_alen (X : Stand p l e R s m args below meth c T locs cells slots) (hx : p.tables.exec = Jvm.exec) (hZ : Z.Warmed39 s.vm) {pc pc' : Nat} {Ls : Array Slot} {rest : List Value} (eT : T.heap = h) (F : OAr Z h a ty n f) (hd : decode c.code pc = .ok (.arraylength, 1)) (z : Int32) (hz : n.toInt32 = z) (hp : pc + 1 = pc') (k : OG p e below s Q kc ks T (mkF m pc' Ls (.int z :: rest))) : OG p e below s Q kc ks T (mkF m pc Ls (.ref a :: rest)) := by
  subst hp hz
  obtain ⟨cl, A, r, H⟩ := F
  exact OG.step (fun t q => X.arraylength hx (by rw [eT]; exact A.1) (State.isArrayOf_alike hZ.alike A.2.1) (g := mkF m pc Ls (.ref a :: rest)) rfl rfl hd t (by rw [r]; exact q)) k
theorem o_newarr (X : Stand p l e R s m args below meth c T locs cells slots) (hx : p.tables.exec = Jvm.exec) (hZ : Z.Warmed39 s.vm) {pc pc' : Nat} {Ls : Array Slot} {rest : List Value} {aty : ArrayType} {z : Int32} (eT : T.heap = h) (w : (Cond.arrayClass (newarray.typeOf aty)).before a0 Z = true) (hd : decode c.code pc = .ok (.newarray aty, 2)) (hn : ¬ z < 0) (cap : Nat) (hcap : z.toNatClampNeg ≤ cap) (hb : cap * 8 ≤ 536870912) (hc : cells + 1 ≤ R.cells) (hl : slots + cap ≤ R.slots) (hp : pc + 2 = pc')
    (k : ∀ T' h' a, Stand p l e R s m args below meth c T' locs (cells + 1) (slots + cap) → T'.heap = h' → a = h.size → Ext h h' → OAr Z h' a (newarray.typeOf aty) z.toNatClampNeg (fun _ => defaultValue (newarray.typeOf aty)) → OG p e below s Q kc ks T' (mkF m pc' Ls (.ref a :: rest))) : OG p e below s Q kc ks T (mkF m pc Ls (.int z :: rest)) := by
  subst hp
  obtain ⟨T1, h1, cA, X1, e1, E1, A1, st1⟩ := newP X hx hZ w eT (g := mkF m pc Ls (.int z :: rest)) rfl hd rfl hn hcap hb hc hl
  exact OG.step st1 (k T1 h1 _ X1 e1 rfl E1 (OAr.new A1))
theorem o_inb {cl : Cell} {j : Int32} (r : cl.slots.size = n) (hj : ¬ j < 0) (hlt : j.toNatClampNeg < n) : ¬ (j < 0 ∨ cl.slots.size ≤ j.toNatClampNeg) := by
  rintro (q | q)
  · exact hj q
  · omega
theorem o_iaload (X : Stand p l e R s m args below meth c T locs cells slots) (hx : p.tables.exec = Jvm.exec) (hZ : Z.Warmed39 s.vm) {pc pc' : Nat} {Ls : Array Slot} {rest : List Value} {j : Int32} (eT : T.heap = h) (F : OAr Z h a .int n f) (hd : decode c.code pc = .ok (.iaload, 1)) (hj : ¬ j < 0) (hlt : j.toNatClampNeg < n) (x : Int32) (hv : f j.toNatClampNeg = .int x) (hp : pc + 1 = pc') (k : OG p e below s Q kc ks T (mkF m pc' Ls (.int x :: rest))) : OG p e below s Q kc ks T (mkF m pc Ls (.int j :: .ref a :: rest)) := by
  subst hp
  obtain ⟨cl, A, r, H⟩ := F
  exact OG.step (fun t q => X.iaload hx (j := j) (v := .int x) (by rw [eT]; exact A.1) (State.isArrayOf_alike hZ.alike A.2.1) A.2.2 (o_inb r hj hlt) (by rw [H _ hlt, hv]) (g := mkF m pc Ls (.int j :: .ref a :: rest)) rfl rfl hd t q) k
theorem o_laload (X : Stand p l e R s m args below meth c T locs cells slots) (hx : p.tables.exec = Jvm.exec) (hZ : Z.Warmed39 s.vm) {pc pc' : Nat} {Ls : Array Slot} {rest : List Value} {j : Int32} (eT : T.heap = h) (F : OAr Z h a .long n f) (hd : decode c.code pc = .ok (.laload, 1)) (hj : ¬ j < 0) (hlt : j.toNatClampNeg < n) (x : Int64) (hv : f j.toNatClampNeg = .long x) (hp : pc + 1 = pc') (k : OG p e below s Q kc ks T (mkF m pc' Ls (.long x :: rest))) : OG p e below s Q kc ks T (mkF m pc Ls (.int j :: .ref a :: rest)) := by
  subst hp
  obtain ⟨cl, A, r, H⟩ := F
  exact OG.step (fun t q => X.laload hx (j := j) (v := .long x) (by rw [eT]; exact A.1) (State.isArrayOf_alike hZ.alike A.2.1) A.2.2 (o_inb r hj hlt) (by rw [H _ hlt, hv]) (g := mkF m pc Ls (.int j :: .ref a :: rest)) rfl rfl hd t q) k
theorem o_caload (X : Stand p l e R s m args below meth c T locs cells slots) (hx : p.tables.exec = Jvm.exec) (hZ : Z.Warmed39 s.vm) {pc pc' : Nat} {Ls : Array Slot} {rest : List Value} {j : Int32} (eT : T.heap = h) (F : OAr Z h a .char n f) (hd : decode c.code pc = .ok (.caload, 1)) (hj : ¬ j < 0) (hlt : j.toNatClampNeg < n) (x : Int32) (hv : f j.toNatClampNeg = .int x) (hp : pc + 1 = pc') (k : OG p e below s Q kc ks T (mkF m pc' Ls (.int x :: rest))) : OG p e below s Q kc ks T (mkF m pc Ls (.int j :: .ref a :: rest)) := by
  subst hp
  obtain ⟨cl, A, r, H⟩ := F
  exact OG.step (fun t q => X.caload hx (j := j) (v := .int x) (by rw [eT]; exact A.1) (State.isArrayOf_alike hZ.alike A.2.1) A.2.2 (o_inb r hj hlt) (by rw [H _ hlt, hv]) (g := mkF m pc Ls (.int j :: .ref a :: rest)) rfl rfl hd t q) k
theorem o_baload (X : Stand p l e R s m args below meth c T locs cells slots) (hx : p.tables.exec = Jvm.exec) (hZ : Z.Warmed39 s.vm) {pc pc' : Nat} {Ls : Array Slot} {rest : List Value} {j : Int32} (eT : T.heap = h) (F : OAr Z h a .byte n f) (hd : decode c.code pc = .ok (.baload, 1)) (hj : ¬ j < 0) (hlt : j.toNatClampNeg < n) (x : Int32) (hv : f j.toNatClampNeg = .int x) (hp : pc + 1 = pc') (k : OG p e below s Q kc ks T (mkF m pc' Ls (.int x :: rest))) : OG p e below s Q kc ks T (mkF m pc Ls (.int j :: .ref a :: rest)) := by
  subst hp
  obtain ⟨cl, A, r, H⟩ := F
  exact OG.step (fun t q => X.baloadBytes hx (j := j) (v := .int x) (by rw [eT]; exact A.1) (State.isArrayOf_alike hZ.alike A.2.1) A.2.2 (o_inb r hj hlt) (by rw [H _ hlt, hv]) (g := mkF m pc Ls (.int j :: .ref a :: rest)) rfl rfl hd t q) k
theorem o_iastore (X : Stand p l e R s m args below meth c T locs cells slots) (hx : p.tables.exec = Jvm.exec) (hZ : Z.Warmed39 s.vm) {pc pc' : Nat} {Ls : Array Slot} {rest : List Value} {j : Int32} {x : Int32} (eT : T.heap = h) (F : OAr Z h a .int n f) (hd : decode c.code pc = .ok (.iastore, 1)) (hj : ¬ j < 0) (hlt : j.toNatClampNeg < n) (hp : pc + 1 = pc')
    (k : ∀ T' h', Stand p l e R s m args below meth c T' (locs ++ [⟨a, j.toNatClampNeg⟩]) cells slots → T'.heap = h' → Wr h h' a j.toNatClampNeg (.int x) → OG p e below s Q kc ks T' (mkF m pc' Ls rest)) : OG p e below s Q kc ks T (mkF m pc Ls (.int x :: .int j :: .ref a :: rest)) := by
  subst hp
  obtain ⟨cl, A, r, H⟩ := F
  obtain ⟨T1, h1, X1, e1, W1, st1⟩ := stI X hx hZ eT A (o_inb r hj hlt) (g := mkF m pc Ls (.int x :: .int j :: .ref a :: rest)) rfl rfl hd
  exact OG.step st1 (k T1 h1 X1 e1 W1)
theorem o_lastore (X : Stand p l e R s m args below meth c T locs cells slots) (hx : p.tables.exec = Jvm.exec) (hZ : Z.Warmed39 s.vm) {pc pc' : Nat} {Ls : Array Slot} {rest : List Value} {j : Int32} {x : Int64} (eT : T.heap = h) (F : OAr Z h a .long n f) (hd : decode c.code pc = .ok (.lastore, 1)) (hj : ¬ j < 0) (hlt : j.toNatClampNeg < n) (hp : pc + 1 = pc')
    (k : ∀ T' h', Stand p l e R s m args below meth c T' (locs ++ [⟨a, j.toNatClampNeg⟩]) cells slots → T'.heap = h' → Wr h h' a j.toNatClampNeg (.long x) → OG p e below s Q kc ks T' (mkF m pc' Ls rest)) : OG p e below s Q kc ks T (mkF m pc Ls (.long x :: .int j :: .ref a :: rest)) := by
  subst hp
  obtain ⟨cl, A, r, H⟩ := F
  obtain ⟨T1, h1, X1, e1, W1, st1⟩ := stJ X hx hZ eT A (o_inb r hj hlt) (g := mkF m pc Ls (.long x :: .int j :: .ref a :: rest)) rfl rfl hd
  exact OG.step st1 (k T1 h1 X1 e1 W1)
theorem o_castore (X : Stand p l e R s m args below meth c T locs cells slots) (hx : p.tables.exec = Jvm.exec) (hZ : Z.Warmed39 s.vm) {pc pc' : Nat} {Ls : Array Slot} {rest : List Value} {j : Int32} {x : Int32} (eT : T.heap = h) (F : OAr Z h a .char n f) (hd : decode c.code pc = .ok (.castore, 1)) (hj : ¬ j < 0) (hlt : j.toNatClampNeg < n) (hp : pc + 1 = pc')
    (k : ∀ T' h', Stand p l e R s m args below meth c T' (locs ++ [⟨a, j.toNatClampNeg⟩]) cells slots → T'.heap = h' → Wr h h' a j.toNatClampNeg (.int (nar .char x)) → OG p e below s Q kc ks T' (mkF m pc' Ls rest)) : OG p e below s Q kc ks T (mkF m pc Ls (.int x :: .int j :: .ref a :: rest)) := by
  subst hp
  obtain ⟨cl, A, r, H⟩ := F
  obtain ⟨T1, h1, X1, e1, W1, st1⟩ := stC X hx hZ eT A (o_inb r hj hlt) (g := mkF m pc Ls (.int x :: .int j :: .ref a :: rest)) rfl rfl hd
  exact OG.step st1 (k T1 h1 X1 e1 W1)
theorem o_bastore (X : Stand p l e R s m args below meth c T locs cells slots) (hx : p.tables.exec = Jvm.exec) (hZ : Z.Warmed39 s.vm) {pc pc' : Nat} {Ls : Array Slot} {rest : List Value} {j : Int32} {x : Int32} (eT : T.heap = h) (F : OAr Z h a .byte n f) (hd : decode c.code pc = .ok (.bastore, 1)) (hj : ¬ j < 0) (hlt : j.toNatClampNeg < n) (hp : pc + 1 = pc')
    (k : ∀ T' h', Stand p l e R s m args below meth c T' (locs ++ [⟨a, j.toNatClampNeg⟩]) cells slots → T'.heap = h' → Wr h h' a j.toNatClampNeg (.int (nar .byte x)) → OG p e below s Q kc ks T' (mkF m pc' Ls rest)) : OG p e below s Q kc ks T (mkF m pc Ls (.int x :: .int j :: .ref a :: rest)) := by
  subst hp
  obtain ⟨cl, A, r, H⟩ := F
  obtain ⟨T1, h1, X1, e1, W1, st1⟩ := stB X hx hZ eT A (o_inb r hj hlt) (g := mkF m pc Ls (.int x :: .int j :: .ref a :: rest)) rfl rfl hd
  exact OG.step st1 (k T1 h1 X1 e1 W1)
theorem o_private (X : Stand p l e R s m args below meth c T locs cells slots) (hx : p.tables.exec = Jvm.exec) (hZ : Z.Warmed39 s.vm) {own : String} {index kk : Nat} {y : MethodName} {bytes : ByteArray} {maxL : Nat} {ret : Option FieldType} {rm : Room} {Qc : Option Value → Heap → List Loc → Prop} {argsL rest st : List Value} {pc pc' : Nat} {Ls : Array Slot} (W : Nat)
    (hown : s.vm.findClass own = some m.cls) (eT : T.heap = h) (hlink : (Cond.methodLink own index y).before a0 Z = true) (hinst : (Cond.instanceMethod y).before a0 Z = true) (hpriv : (Cond.privateMethod y).before a0 Z = true) (wi : (Cond.instantiable y.cls kk).before a0 Z = true) (hinit : (Cond.initialized y.cls).before a0 Z = true) (hcode : (Cond.code y bytes maxL ret).before a0 Z = true) (hy : y.cls ≠ "java/lang/invoke/MethodHandle" ∧ y.cls ≠ "java/lang/invoke/VarHandle")
    (E : Exa Z h a y.cls)
    (hM : MetFree l y (head1 [Cond.code y bytes maxL ret] rm) (fun b U => b = (.ref a :: argsL).toArray ∧ Z.Warmed39 U.vm ∧ U.heap = h) (fun _ _ _ _ _ => True) (fun _ U o U' => ∃ v L, o = .returned v ∧ Qc v U'.heap L ∧ FrameEnd U o U' L rm.cells rm.slots)) (hf : rm.frames + 1 ≤ R.frames) (hl : W + (maxL + 11) + rm.locals ≤ R.locals)
    (hsize : Ls.size = c.maxLocals) (hlen : ∀ sig, parseMethodDescriptor y.desc = some sig → argsL.length = sig.parameters.length) (hs : st = argsL.reverse ++ .ref a :: rest) (hW : (rest.map fun v => v.category).sum ≤ W) (hd : decode c.code pc = .ok (.invokevirtual index, 3)) (hp : pc + 3 = pc') (hc : cells + rm.cells ≤ R.cells) (hsl : slots + rm.slots ≤ R.slots)
    (k : ∀ v T' L, Stand p l e R s m args below meth c T' (locs ++ L) (cells + rm.cells) (slots + rm.slots) → Qc v T'.heap L → OG p e below s Q kc ks T' (mkF m pc' Ls (v.toList ++ rest))) : OG p e below s Q kc ks T (mkF m pc Ls st) := by
  subst hp hs
  obtain ⟨cq, q1, q2⟩ := E.cell
  have hpa := Cond.privateMethod_at (mvP hZ hpriv (args := args))
  obtain ⟨cI, kI, i1, i2, -, i4, -⟩ := Cond.instantiable_spec (mvT hZ wi : (Cond.instantiable y.cls kk).before args s = true)
  have hni : kI.isInterface = false := (Bool.or_eq_false_iff.mp i4).1
  have hsel := selects_self_of_private (args := args) i1 i2 hni hpa (mvT hZ hinst) hy
  obtain ⟨v, vm₁, ⟨T1, L1, c1, n1⟩, -, X1, ⟨Lc, hQ, l1, y1, z1⟩, st⟩ := X.privateBack hx (y := y) hown (mvT hZ hlink) (mvT hZ hinst) hsel hpa (mvT hZ hcode) hy (backOf (W := W) hM hZ hcode hinit hf hl) (g := mkF m pc Ls (argsL.reverse ++ .ref a :: rest)) rfl hsize (Steps.refl _) (a := a) (by rw [eT]; exact q1) q2 (argsL := argsL) (rest := rest) hlen rfl (by show 2 * 0 + _ ≤ _; omega) hd (fun _ _ => ⟨rfl, eT, hc, hsl⟩)
  dsimp only [Pt.U, Pt.locs, Pt.cells, Pt.slots] at X1 l1 y1 z1 st hQ
  subst l1 y1 z1
  exact OG.step (fun t q => st.trans q) (k v T1 Lc X1 hQ)
end OwnA
section OwnB
def ci (c : Nat → Int32) : Nat → Value := fun i => .int (c i)
def cj (c : Nat → Int64) : Nat → Value := fun i => .long (c i)
def li (vs : List Int32) (i : Nat) : Int32 := vs.getD i 0
def upd (c : Nat → Int32) (j : Nat) (x : Int32) : Nat → Int32 := fun i => if i = j then x else c i
def updJ (c : Nat → Int64) (j : Nat) (x : Int64) : Nat → Int64 := fun i => if i = j then x else c i
variable {Z : State} {h h' : Heap} {a : Addr} {ty : FieldType} {n : Nat}
theorem OAr.setI {vs : List Int32} {j : Nat} {x : Int32} (W : Wr h h' a j (.int x)) (F : OAr Z h a ty n (ci (li vs))) (hj : j < vs.length) : OAr Z h' a ty n (ci (li (vs.set j x))) :=
  (OAr.same W F).cg fun i hi => by
    unfold ci li
    by_cases q : i = j
    · subst q; simp [hj]
    · simp only [List.getD_eq_getElem?_getD, List.getElem?_set, if_neg q, if_neg (fun z : j = i => q z.symm)]
theorem OAr.updI {c : Nat → Int32} {j : Nat} {x : Int32} (W : Wr h h' a j (.int x)) (F : OAr Z h a ty n (ci c)) : OAr Z h' a ty n (ci (upd c j x)) :=
  (OAr.same W F).cg fun i hi => by unfold ci upd; split <;> rfl
theorem OAr.updJ {c : Nat → Int64} {j : Nat} {x : Int64} (W : Wr h h' a j (.long x)) (F : OAr Z h a ty n (cj c)) : OAr Z h' a ty n (cj (updJ c j x)) :=
  (OAr.same W F).cg fun i hi => by unfold cj Jvm.Pilot.@@N@@.updJ; split <;> rfl
theorem OAr.zeros {k : Nat} (F : OAr Z h a ty n (fun _ => .int 0)) : OAr Z h a ty n (ci (li (List.replicate k 0))) :=
  F.cg fun i hi => by unfold ci li; by_cases q : i < k <;> simp [q]
theorem own_back {z : Int32} (q : ¬ z < 0) : z.toNatClampNeg.toInt32 = z := (back32 q).1
end OwnB

theorem own_max (x : Int64) : 0 ≤ (x &&& (9223372036854775807 : Int64)).toInt := by
  have : (x &&& (9223372036854775807 : Int64)).toBitVec.msb = false := by
    rw [Int64.toBitVec_and, BitVec.msb_and, show (9223372036854775807 : Int64).toBitVec.msb = false by decide, Bool.and_false]
  rw [← Int64.toInt_toBitVec, BitVec.toInt_eq_msb_cond, this]; simp
theorem own_ladd (a b : Int64) : ((a + b).toInt = a.toInt + b.toInt ∨ (a + b).toInt = a.toInt + b.toInt + 2^64 ∨ (a + b).toInt = a.toInt + b.toInt - 2^64) ∧ -2^63 ≤ (a + b).toInt ∧ (a + b).toInt < 2^63 := by
  refine ⟨?_, (a+b).le_toInt, (a+b).toInt_lt⟩
  rw [Int64.toInt_add, Int.bmod_def]; have := a.toInt_lt; have := b.toInt_lt; have := a.le_toInt; have := b.le_toInt; omega
theorem own_lsub (a b : Int64) : ((a - b).toInt = a.toInt - b.toInt ∨ (a - b).toInt = a.toInt - b.toInt + 2^64 ∨ (a - b).toInt = a.toInt - b.toInt - 2^64) ∧ -2^63 ≤ (a - b).toInt ∧ (a - b).toInt < 2^63 := by
  refine ⟨?_, (a-b).le_toInt, (a-b).toInt_lt⟩
  rw [Int64.toInt_sub, Int.bmod_def]; have := a.toInt_lt; have := b.toInt_lt; have := a.le_toInt; have := b.le_toInt; omega
theorem own_toNat {x : Int64} (h : 0 ≤ x.toInt) : x.toInt = x.toBitVec.toNat := by
  rw [← Int64.toInt_toBitVec] at *
  rw [BitVec.toInt_eq_toNat_cond] at *
  have := x.toBitVec.isLt
  split at h <;> rename_i q
  · rw [if_pos q]
  · omega
theorem own_ofNat {x : Int64} (h : x.toBitVec.toNat < 2 ^ 63) : x.toInt = x.toBitVec.toNat := by
  rw [← Int64.toInt_toBitVec, BitVec.toInt_eq_toNat_cond, if_pos (by omega)]
theorem own_and31' (x : Int64) : 0 ≤ (x &&& (2147483647 : Int64)).toInt ∧ (x &&& (2147483647 : Int64)).toInt ≤ 2147483647 := by
  have e : (x &&& (2147483647 : Int64)).toBitVec.toNat = x.toBitVec.toNat % 2^31 := by
    rw [Int64.toBitVec_and, BitVec.toNat_and, show (2147483647 : Int64).toBitVec.toNat = 2^31 - 1 from rfl, Nat.and_two_pow_sub_one_eq_mod]
  rw [own_ofNat (by omega), e]; omega
theorem own_lmul {a b : Int64} (h1 : -2^63 ≤ a.toInt * b.toInt) (h2 : a.toInt * b.toInt < 2^63) : (a * b).toInt = a.toInt * b.toInt := by
  rw [Int64.toInt_mul, Int.bmod_def]; generalize a.toInt * b.toInt = z at *; omega

theorem d1_0 : decode jdk_29_method_66_code 0 = .ok (.lload_n 0, 1) := by decide +kernel
theorem d1_1 : decode jdk_29_method_66_code 1 = .ok (.lload_n 2, 1) := by decide +kernel
theorem d1_2 : decode jdk_29_method_66_code 2 = .ok (.lcmp, 1) := by decide +kernel
theorem d1_3 : decode jdk_29_method_66_code 3 = .ok (.ifCond .lt 7, 3) := by decide +kernel
theorem d1_10 : decode jdk_29_method_66_code 10 = .ok (.lload_n 2, 1) := by decide +kernel
theorem d1_11 : decode jdk_29_method_66_code 11 = .ok (.lreturn, 1) := by decide +kernel
theorem d1_6 : decode jdk_29_method_66_code 6 = .ok (.lload_n 0, 1) := by decide +kernel
theorem d1_7 : decode jdk_29_method_66_code 7 = .ok (.goto 4, 3) := by decide +kernel
def f1_0 (x0 : Int64) (x2 : Int64) : Int64 := (if x0 < x2 then x2 else x0)
set_option maxRecDepth 65536 in
set_option maxHeartbeats 40000000 in
theorem b1_0 {p : Program} {l : Launch} {e : Env} {s : State} {m : MethodId} {args : Array Value} {below : List Frame} {meth : Method} {c : Code} {Z : State} {a0 : Array Value} {h0 : Heap} {n0 : Nat} (hx : p.tables.exec = Jvm.exec) (hZ : Z.Warmed39 s.vm) (hw : ∀ d ∈ tables_1, d.before a0 Z = true) (hby : c.code = jdk_29_method_66_code) (hml : c.maxLocals = 4) (hown : s.vm.findClass "java/lang/Math" = some m.cls) (hnm : meth.name = "max") (hret : meth.sig.returnType = some .long) (hlk : meth.locks = false)  {T : State} {locs : List Loc} (x0 : Int64) (x2 : Int64) (r : Int64) (X : Stand p l e ({ frames := 0, cells := 0, slots := 0, locals := 0 } : Room) s m args below meth c T locs 0 0) (eT : T.heap = h0) (N : Fr n0 locs) (Z0 : n0 ≤ h0.size) (hr : f1_0 x0 x2 = r) :
    OG p e below s (fun v h L => v = (some (.long r)) ∧ Fr n0 L ∧ h = h0) 0 0 T (mkF m 0 #[.val (.long x0), .second, .val (.long x2), .second] []) := by
  have hr : (if x0 < x2 then x2 else x0) = r := hr
  refine o_lload_n X hx (hb hby d1_0) rfl (pc' := 1) rfl ?_
  refine o_lload_n X hx (hb hby d1_1) rfl (pc' := 2) rfl ?_
  refine o_lcmp X hx (hb hby d1_2) (pc' := 3) rfl ?_
  by_cases hc1 : x0 < x2
  · rw [if_pos hc1] at hr
    refine o_ifYes X hx (hb hby d1_3) (l_tlt hc1).1 (pc' := 10) (by decide) (by decide) ?_
    refine o_lload_n X hx (hb hby d1_10) rfl (pc' := 11) rfl ?_
    subst hr
    exact o_retJ X hx hlk hret (hb hby d1_11) ⟨rfl, N, eT⟩ (by decide) (by decide)
  · rw [if_neg hc1] at hr
    refine o_ifNo X hx (hb hby d1_3) (l_flt hc1).1 (pc' := 6) rfl ?_
    refine o_lload_n X hx (hb hby d1_6) rfl (pc' := 7) rfl ?_
    refine o_goto X hx (hb hby d1_7) (pc' := 11) (by decide) (by decide) ?_
    subst hr
    exact o_retJ X hx hlk hret (hb hby d1_11) ⟨rfl, N, eT⟩ (by decide) (by decide)
theorem ef_1 (m : MethodId) (x0 : Int64) (x2 : Int64) : entryFrame m #[(.long x0), (.long x2)] 4 = (mkF m 0 #[.val (.long x0), .second, .val (.long x2), .second] []) := by first | (simp [entryFrame, mkF, argsToLocals, Value.category]; done) | rfl
def Qd1 (Z : State) (h0 : Heap) (n0 : Nat) (x0 : Int64) (x2 : Int64) (r : Int64) : Option Value → Heap → List Loc → Prop := (fun v h L => v = (some (.long r)) ∧ Fr n0 L ∧ h = h0)
set_option maxRecDepth 65536 in
set_option maxHeartbeats 40000000 in
theorem rm1 (l : Launch) (Z : State) (a0 : Array Value) (hw : ∀ d ∈ tables_1, d.before a0 Z = true) (ws : List Jvm.Cond) (x0 : Int64) (x2 : Int64) (h0 : Heap) (n0 : Nat) (Z0 : n0 ≤ h0.size) (r : Int64) (hr : f1_0 x0 x2 = r) :
    MetFree l (⟨"java/lang/Math", "max", "(JJ)J"⟩ : MethodName) (head1 (Jvm.Cond.code (⟨"java/lang/Math", "max", "(JJ)J"⟩ : MethodName) jdk_29_method_66_code 4 (some .long) :: ws) ({ frames := 0, cells := 0, slots := 0, locals := 0 } : Room)) (fun a U => a = #[(.long x0), (.long x2)] ∧ Z.Warmed39 U.vm ∧ U.heap = h0) (fun _ _ _ _ _ => True) (fun _ U o U' => ∃ v L, o = .returned v ∧ (Qd1 Z h0 n0 x0 x2 r) v U'.heap L ∧ FrameEnd U o U' L ({ frames := 0, cells := 0, slots := 0, locals := 0 } : Room).cells ({ frames := 0, cells := 0, slots := 0, locals := 0 } : Room).slots) := by
  refine MetFree.of_bodySF (Jvm.Free.JP.mathPlain rfl (by decide +kernel)) hisR ?_
  intro p e s m args below meth c s₁ Bd hml0 hP hK
  obtain ⟨rfl, hZ, hh⟩ := hP
  have e0 : s₁.heap = h0 := by rw [← hh, Bd.state]; rfl
  exact OG.cast (ef_1 m x0 x2) (b1_0 Bd.exec hZ hw Bd.bytes hml0 (findClass_of_methodNamed Bd.named) (name_of_methodNamed Bd.named Bd.method).1 Bd.returns Bd.notSynchronized x0 x2 r (Stand.of_body Bd) e0 (Fr.nil n0) Z0 hr)
theorem d2_0 : decode prog_155_method_1_code 0 = .ok (.aload_n 0, 1) := by decide +kernel
theorem d2_1 : decode prog_155_method_1_code 1 = .ok (.invokespecial 1, 3) := by decide +kernel
theorem d2_4 : decode prog_155_method_1_code 4 = .ok (.aload_n 0, 1) := by decide +kernel
theorem d2_5 : decode prog_155_method_1_code 5 = .ok (.lload_n 1, 1) := by decide +kernel
theorem d2_6 : decode prog_155_method_1_code 6 = .ok (.putfield 7, 3) := by decide +kernel
theorem d2_9 : decode prog_155_method_1_code 9 = .ok (.aload_n 0, 1) := by decide +kernel
theorem d2_10 : decode prog_155_method_1_code 10 = .ok (.lload_n 3, 1) := by decide +kernel
theorem d2_11 : decode prog_155_method_1_code 11 = .ok (.putfield 13, 3) := by decide +kernel
theorem d2_14 : decode prog_155_method_1_code 14 = .ok (.return_, 1) := by decide +kernel
def f2_0 (x1 : Int64) (x3 : Int64) : Int64 × Int64 := (x1, x3)
set_option maxRecDepth 65536 in
set_option maxHeartbeats 40000000 in
theorem b2_0 {p : Program} {l : Launch} {e : Env} {s : State} {m : MethodId} {args : Array Value} {below : List Frame} {meth : Method} {c : Code} {Z : State} {a0 : Array Value} {h0 : Heap} {n0 : Nat} (hx : p.tables.exec = Jvm.exec) (hZ : Z.Warmed39 s.vm) (hw : ∀ d ∈ tables_1, d.before a0 Z = true) (hby : c.code = prog_155_method_1_code) (hml : c.maxLocals = 5) (hown : s.vm.findClass "com/example/gangway/gangway/policy/ShareLevel" = some m.cls) (hnm : meth.name = "<init>") (hret : meth.sig.returnType = none) (hlk : meth.locks = false) (o0 : Addr) {T : State} {locs : List Loc} {h : Heap} (u_nodes : Value) (u_jobs : Value) (x1 : Int64) (x3 : Int64) (r : Int64 × Int64) (X : Stand p l e ({ frames := 1, cells := 0, slots := 0, locals := 12 } : Room) s m args below meth c T locs 0 0) (eT : T.heap = h) (N : Fr n0 locs) (hsz : n0 ≤ h.size) (K : Keep h0 h [o0]) (E_o0 : Exa Z h o0 "com/example/gangway/gangway/policy/ShareLevel") (F_o0_nodes : Fld Z h o0 "com/example/gangway/gangway/policy/ShareLevel" "nodes" "J" u_nodes) (F_o0_jobs : Fld Z h o0 "com/example/gangway/gangway/policy/ShareLevel" "jobs" "J" u_jobs) (g_o0 : n0 ≤ o0) (hr : f2_0 x1 x3 = r) :
    OG p e below s (fun v h L => v = none ∧ Fr n0 L ∧ Keep h0 h [o0] ∧ Exa Z h o0 "com/example/gangway/gangway/policy/ShareLevel" ∧ Fld Z h o0 "com/example/gangway/gangway/policy/ShareLevel" "nodes" "J" (.long r.1) ∧ Fld Z h o0 "com/example/gangway/gangway/policy/ShareLevel" "jobs" "J" (.long r.2)) 0 0 T (mkF m 0 #[.val (.ref o0), .val (.long x1), .second, .val (.long x3), .second] []) := by
  have hr : (x1, x3) = r := hr
  refine o_aload_n X hx (hb hby d2_0) rfl rfl (pc' := 1) rfl ?_
  refine o_initO X hx hZ 0 hown eT (hw _ (List.mem_of_getElem? (i := 11) rfl)) (hw _ (List.mem_of_getElem? (i := 12) rfl)) (hw _ (List.mem_of_getElem? (i := 13) rfl)) (by rw [hml]; rfl) (hb hby d2_1) (by decide) (Nat.le_refl _) (by decide) (pc' := 4) rfl ?_
  intro T1 X1 e1
  refine o_aload_n X1 hx (hb hby d2_4) rfl rfl (pc' := 5) rfl ?_
  refine o_lload_n X1 hx (hb hby d2_5) rfl (pc' := 6) rfl ?_
  refine o_putF X1 hx hZ hown e1 (hw _ (List.mem_of_getElem? (i := 14) rfl)) Via.refl F_o0_nodes E_o0 (Or.inl (hw _ (List.mem_of_getElem? (i := 15) rfl))) (hw _ (List.mem_of_getElem? (i := 6) rfl)) (ty := .long) (by decide) rfl rfl (hb hby d2_6) (pc' := 9) rfl ?_
  intro T2 h2 X2 e2 W2
  have F2_o0_nodes := Fld.same W2 F_o0_nodes
  have A2_o0 := Exa.wr W2 E_o0
  have F2_o0_jobs := Fld.other W2 F_o0_jobs (Or.inr (slot_ne (Or.inl (hw _ (List.mem_of_getElem? (i := 17) rfl))) (Or.inl (hw _ (List.mem_of_getElem? (i := 15) rfl))) (by decide) (t := .long) (t' := .long) (by decide) (by decide)))
  have N2 := Fr.snoc X2 N g_o0
  have z2 : n0 ≤ h2.size := Nat.le_trans hsz (Keep.of_wr W2).1
  have K2 := Keep.wr K W2 (Or.inl (by simp))
  refine o_aload_n X2 hx (hb hby d2_9) rfl rfl (pc' := 10) rfl ?_
  refine o_lload_n X2 hx (hb hby d2_10) rfl (pc' := 11) rfl ?_
  refine o_putF X2 hx hZ hown e2 (hw _ (List.mem_of_getElem? (i := 16) rfl)) Via.refl F2_o0_jobs A2_o0 (Or.inl (hw _ (List.mem_of_getElem? (i := 17) rfl))) (hw _ (List.mem_of_getElem? (i := 6) rfl)) (ty := .long) (by decide) rfl rfl (hb hby d2_11) (pc' := 14) rfl ?_
  intro T3 h3 X3 e3 W3
  have F3_o0_jobs := Fld.same W3 F2_o0_jobs
  have A3_o0 := Exa.wr W3 A2_o0
  have F3_o0_nodes := Fld.other W3 F2_o0_nodes (Or.inr (slot_ne (Or.inl (hw _ (List.mem_of_getElem? (i := 15) rfl))) (Or.inl (hw _ (List.mem_of_getElem? (i := 17) rfl))) (by decide) (t := .long) (t' := .long) (by decide) (by decide)))
  have N3 := Fr.snoc X3 N2 g_o0
  have z3 : n0 ≤ h3.size := Nat.le_trans z2 (Keep.of_wr W3).1
  have K3 := Keep.wr K2 W3 (Or.inl (by simp))
  subst hr
  exact o_ret X3 hx hlk hret (hb hby d2_14) (by rw [e3]; exact ⟨rfl, N3, K3, A3_o0, F3_o0_nodes, F3_o0_jobs⟩) (by decide) (by decide)
theorem pn_2 : plainName "com/example/gangway/gangway/policy/ShareLevel" = true := by first | (simp [plainName, overriddenIn]; done) | decide +kernel
theorem ef_2 (m : MethodId) (o0 : Addr) (x1 : Int64) (x3 : Int64) : entryFrame m #[(.ref o0), (.long x1), (.long x3)] 5 = (mkF m 0 #[.val (.ref o0), .val (.long x1), .second, .val (.long x3), .second] []) := by first | (simp [entryFrame, mkF, argsToLocals, Value.category]; done) | rfl
def Qd2 (Z : State) (h0 : Heap) (n0 : Nat) (o0 : Addr) (x1 : Int64) (x3 : Int64) (u_nodes : Value) (u_jobs : Value) (r : Int64 × Int64) : Option Value → Heap → List Loc → Prop := (fun v h L => v = none ∧ Fr n0 L ∧ Keep h0 h [o0] ∧ Exa Z h o0 "com/example/gangway/gangway/policy/ShareLevel" ∧ Fld Z h o0 "com/example/gangway/gangway/policy/ShareLevel" "nodes" "J" (.long r.1) ∧ Fld Z h o0 "com/example/gangway/gangway/policy/ShareLevel" "jobs" "J" (.long r.2))
set_option maxRecDepth 65536 in
set_option maxHeartbeats 40000000 in
theorem rm2 (l : Launch) (Z : State) (a0 : Array Value) (hw : ∀ d ∈ tables_1, d.before a0 Z = true) (ws : List Jvm.Cond) (o0 : Addr) (x1 : Int64) (x3 : Int64) (u_nodes : Value) (u_jobs : Value) (h0 : Heap) (n0 : Nat) (Z0 : n0 ≤ h0.size) (E_o0 : Exa Z h0 o0 "com/example/gangway/gangway/policy/ShareLevel") (F_o0_nodes : Fld Z h0 o0 "com/example/gangway/gangway/policy/ShareLevel" "nodes" "J" u_nodes) (F_o0_jobs : Fld Z h0 o0 "com/example/gangway/gangway/policy/ShareLevel" "jobs" "J" u_jobs) (g_o0 : n0 ≤ o0) (r : Int64 × Int64) (hr : f2_0 x1 x3 = r) :
    MetFree l (⟨"com/example/gangway/gangway/policy/ShareLevel", "<init>", "(JJ)V"⟩ : MethodName) (head1 (Jvm.Cond.code (⟨"com/example/gangway/gangway/policy/ShareLevel", "<init>", "(JJ)V"⟩ : MethodName) prog_155_method_1_code 5 none :: ws) ({ frames := 1, cells := 0, slots := 0, locals := 12 } : Room)) (fun a U => a = #[(.ref o0), (.long x1), (.long x3)] ∧ Z.Warmed39 U.vm ∧ U.heap = h0) (fun _ _ _ _ _ => True) (fun _ U o U' => ∃ v L, o = .returned v ∧ (Qd2 Z h0 n0 o0 x1 x3 u_nodes u_jobs r) v U'.heap L ∧ FrameEnd U o U' L ({ frames := 1, cells := 0, slots := 0, locals := 12 } : Room).cells ({ frames := 1, cells := 0, slots := 0, locals := 12 } : Room).slots) := by
  refine MetFree.of_bodySF (plainFor_of_name pn_2) hisR ?_
  intro p e s m args below meth c s₁ Bd hml0 hP hK
  obtain ⟨rfl, hZ, hh⟩ := hP
  have e0 : s₁.heap = h0 := by rw [← hh, Bd.state]; rfl
  exact OG.cast (ef_2 m o0 x1 x3) (b2_0 Bd.exec hZ hw Bd.bytes hml0 (findClass_of_methodNamed Bd.named) (name_of_methodNamed Bd.named Bd.method).1 Bd.returns Bd.notSynchronized o0 u_nodes u_jobs x1 x3 r (Stand.of_body Bd) e0 (Fr.nil n0) Z0 (Keep.refl h0 [o0]) E_o0 F_o0_nodes F_o0_jobs g_o0 hr)
theorem d4_0 : decode prog_155_method_2_code 0 = .ok (.lload_n 1, 1) := by decide +kernel
theorem d4_1 : decode prog_155_method_2_code 1 = .ok (.aload_n 0, 1) := by decide +kernel
theorem d4_2 : decode prog_155_method_2_code 2 = .ok (.getfield 7, 3) := by decide +kernel
theorem d4_5 : decode prog_155_method_2_code 5 = .ok (.aload_n 0, 1) := by decide +kernel
theorem d4_6 : decode prog_155_method_2_code 6 = .ok (.getfield 13, 3) := by decide +kernel
theorem d4_9 : decode prog_155_method_2_code 9 = .ok (.ldiv, 1) := by decide +kernel
theorem d4_10 : decode prog_155_method_2_code 10 = .ok (.lcmp, 1) := by decide +kernel
theorem d4_11 : decode prog_155_method_2_code 11 = .ok (.ifCond .le 5, 3) := by decide +kernel
theorem d4_14 : decode prog_155_method_2_code 14 = .ok (.iconst 0, 1) := by decide +kernel
theorem d4_15 : decode prog_155_method_2_code 15 = .ok (.ireturn, 1) := by decide +kernel
theorem d4_16 : decode prog_155_method_2_code 16 = .ok (.aload_n 0, 1) := by decide +kernel
theorem d4_17 : decode prog_155_method_2_code 17 = .ok (.dup, 1) := by decide +kernel
theorem d4_18 : decode prog_155_method_2_code 18 = .ok (.getfield 7, 3) := by decide +kernel
theorem d4_21 : decode prog_155_method_2_code 21 = .ok (.lload_n 1, 1) := by decide +kernel
theorem d4_22 : decode prog_155_method_2_code 22 = .ok (.lload_n 3, 1) := by decide +kernel
theorem d4_23 : decode prog_155_method_2_code 23 = .ok (.lmul, 1) := by decide +kernel
theorem d4_24 : decode prog_155_method_2_code 24 = .ok (.lsub, 1) := by decide +kernel
theorem d4_25 : decode prog_155_method_2_code 25 = .ok (.putfield 7, 3) := by decide +kernel
theorem d4_28 : decode prog_155_method_2_code 28 = .ok (.aload_n 0, 1) := by decide +kernel
theorem d4_29 : decode prog_155_method_2_code 29 = .ok (.dup, 1) := by decide +kernel
theorem d4_30 : decode prog_155_method_2_code 30 = .ok (.getfield 13, 3) := by decide +kernel
theorem d4_33 : decode prog_155_method_2_code 33 = .ok (.lload_n 3, 1) := by decide +kernel
theorem d4_34 : decode prog_155_method_2_code 34 = .ok (.lsub, 1) := by decide +kernel
theorem d4_35 : decode prog_155_method_2_code 35 = .ok (.putfield 13, 3) := by decide +kernel
theorem d4_38 : decode prog_155_method_2_code 38 = .ok (.iconst 1, 1) := by decide +kernel
theorem d4_39 : decode prog_155_method_2_code 39 = .ok (.ireturn, 1) := by decide +kernel
def f4_0 (u_nodes : Int64) (u_jobs : Int64) (x1 : Int64) (x3 : Int64) : Int32 × Int64 × Int64 := (if (u_nodes / u_jobs) < x1 then ((0 : Int32), u_nodes, u_jobs) else ((1 : Int32), (u_nodes - (x1 * x3)), (u_jobs - x3)))
set_option maxRecDepth 65536 in
set_option maxHeartbeats 40000000 in
theorem b4_0 {p : Program} {l : Launch} {e : Env} {s : State} {m : MethodId} {args : Array Value} {below : List Frame} {meth : Method} {c : Code} {Z : State} {a0 : Array Value} {h0 : Heap} {n0 : Nat} (hx : p.tables.exec = Jvm.exec) (hZ : Z.Warmed39 s.vm) (hw : ∀ d ∈ tables_1, d.before a0 Z = true) (hby : c.code = prog_155_method_2_code) (hml : c.maxLocals = 5) (hown : s.vm.findClass "com/example/gangway/gangway/policy/ShareLevel" = some m.cls) (hnm : meth.name = "takeWhole") (hret : meth.sig.returnType = some .boolean) (hlk : meth.locks = false) (o0 : Addr) {T : State} {locs : List Loc} {h : Heap} (u_nodes : Int64) (u_jobs : Int64) (x1 : Int64) (x3 : Int64) (r : Int32 × Int64 × Int64) (X : Stand p l e ({ frames := 0, cells := 0, slots := 0, locals := 0 } : Room) s m args below meth c T locs 0 0) (eT : T.heap = h) (N : Fr n0 locs) (hsz : n0 ≤ h.size) (K : Keep h0 h [o0]) (E_o0 : Exa Z h o0 "com/example/gangway/gangway/policy/ShareLevel") (F_o0_nodes : Fld Z h o0 "com/example/gangway/gangway/policy/ShareLevel" "nodes" "J" (.long u_nodes)) (F_o0_jobs : Fld Z h o0 "com/example/gangway/gangway/policy/ShareLevel" "jobs" "J" (.long u_jobs)) (g_o0 : n0 ≤ o0) (hj : u_jobs ≠ 0) (hr : f4_0 u_nodes u_jobs x1 x3 = r) :
    OG p e below s (fun v h L => v = (some (.int r.1)) ∧ Fr n0 L ∧ Keep h0 h [o0] ∧ Exa Z h o0 "com/example/gangway/gangway/policy/ShareLevel" ∧ Fld Z h o0 "com/example/gangway/gangway/policy/ShareLevel" "nodes" "J" (.long r.2.1) ∧ Fld Z h o0 "com/example/gangway/gangway/policy/ShareLevel" "jobs" "J" (.long r.2.2)) 0 0 T (mkF m 0 #[.val (.ref o0), .val (.long x1), .second, .val (.long x3), .second] []) := by
  have hr : (if (u_nodes / u_jobs) < x1 then ((0 : Int32), u_nodes, u_jobs) else ((1 : Int32), (u_nodes - (x1 * x3)), (u_jobs - x3))) = r := hr
  refine o_lload_n X hx (hb hby d4_0) rfl (pc' := 1) rfl ?_
  refine o_aload_n X hx (hb hby d4_1) rfl rfl (pc' := 2) rfl ?_
  refine o_getF X hx hZ hown eT (hw _ (List.mem_of_getElem? (i := 14) rfl)) Via.refl F_o0_nodes (hb hby d4_2) (pc' := 5) rfl ?_
  intro T1 X1 e1
  refine o_aload_n X1 hx (hb hby d4_5) rfl rfl (pc' := 6) rfl ?_
  refine o_getF X1 hx hZ hown e1 (hw _ (List.mem_of_getElem? (i := 16) rfl)) Via.refl F_o0_jobs (hb hby d4_6) (pc' := 9) rfl ?_
  intro T2 X2 e2
  refine o_ldiv X2 hx (hb hby d4_9) hj (pc' := 10) rfl ?_
  refine o_lcmp X2 hx (hb hby d4_10) (pc' := 11) rfl ?_
  by_cases hc3 : (u_nodes / u_jobs) < x1
  · rw [if_pos hc3] at hr
    refine o_ifNo X2 hx (hb hby d4_11) (l_tgt hc3).2 (pc' := 14) rfl ?_
    refine o_iconst X2 hx (hb hby d4_14) (0 : Int32) rfl (pc' := 15) rfl ?_
    subst hr
    exact o_retN X2 hx hlk (t := .boolean) (by simp) hret (hb hby d4_15) rfl (by rw [e2]; exact ⟨rfl, N, K, E_o0, F_o0_nodes, F_o0_jobs⟩) (by decide) (by decide)
  · rw [if_neg hc3] at hr
    refine o_ifYes X2 hx (hb hby d4_11) (l_fgt hc3).2 (pc' := 16) (by decide) (by decide) ?_
    refine o_aload_n X2 hx (hb hby d4_16) rfl rfl (pc' := 17) rfl ?_
    refine o_dup X2 hx (hb hby d4_17) rfl (pc' := 18) rfl ?_
    refine o_getF X2 hx hZ hown e2 (hw _ (List.mem_of_getElem? (i := 14) rfl)) Via.refl F_o0_nodes (hb hby d4_18) (pc' := 21) rfl ?_
    intro T4 X4 e4
    refine o_lload_n X4 hx (hb hby d4_21) rfl (pc' := 22) rfl ?_
    refine o_lload_n X4 hx (hb hby d4_22) rfl (pc' := 23) rfl ?_
    refine o_lmul X4 hx (hb hby d4_23) (pc' := 24) rfl ?_
    refine o_lsub X4 hx (hb hby d4_24) (pc' := 25) rfl ?_
    refine o_putF X4 hx hZ hown e4 (hw _ (List.mem_of_getElem? (i := 14) rfl)) Via.refl F_o0_nodes E_o0 (Or.inl (hw _ (List.mem_of_getElem? (i := 15) rfl))) (hw _ (List.mem_of_getElem? (i := 6) rfl)) (ty := .long) (by decide) rfl rfl (hb hby d4_25) (pc' := 28) rfl ?_
    intro T5 h5 X5 e5 W5
    have F5_o0_nodes := Fld.same W5 F_o0_nodes
    have A5_o0 := Exa.wr W5 E_o0
    have F5_o0_jobs := Fld.other W5 F_o0_jobs (Or.inr (slot_ne (Or.inl (hw _ (List.mem_of_getElem? (i := 17) rfl))) (Or.inl (hw _ (List.mem_of_getElem? (i := 15) rfl))) (by decide) (t := .long) (t' := .long) (by decide) (by decide)))
    have N5 := Fr.snoc X5 N g_o0
    have z5 : n0 ≤ h5.size := Nat.le_trans hsz (Keep.of_wr W5).1
    have K5 := Keep.wr K W5 (Or.inl (by simp))
    refine o_aload_n X5 hx (hb hby d4_28) rfl rfl (pc' := 29) rfl ?_
    refine o_dup X5 hx (hb hby d4_29) rfl (pc' := 30) rfl ?_
    refine o_getF X5 hx hZ hown e5 (hw _ (List.mem_of_getElem? (i := 16) rfl)) Via.refl F5_o0_jobs (hb hby d4_30) (pc' := 33) rfl ?_
    intro T6 X6 e6
    refine o_lload_n X6 hx (hb hby d4_33) rfl (pc' := 34) rfl ?_
    refine o_lsub X6 hx (hb hby d4_34) (pc' := 35) rfl ?_
    refine o_putF X6 hx hZ hown e6 (hw _ (List.mem_of_getElem? (i := 16) rfl)) Via.refl F5_o0_jobs A5_o0 (Or.inl (hw _ (List.mem_of_getElem? (i := 17) rfl))) (hw _ (List.mem_of_getElem? (i := 6) rfl)) (ty := .long) (by decide) rfl rfl (hb hby d4_35) (pc' := 38) rfl ?_
    intro T7 h7 X7 e7 W7
    have F7_o0_jobs := Fld.same W7 F5_o0_jobs
    have A7_o0 := Exa.wr W7 A5_o0
    have F7_o0_nodes := Fld.other W7 F5_o0_nodes (Or.inr (slot_ne (Or.inl (hw _ (List.mem_of_getElem? (i := 15) rfl))) (Or.inl (hw _ (List.mem_of_getElem? (i := 17) rfl))) (by decide) (t := .long) (t' := .long) (by decide) (by decide)))
    have N7 := Fr.snoc X7 N5 g_o0
    have z7 : n0 ≤ h7.size := Nat.le_trans z5 (Keep.of_wr W7).1
    have K7 := Keep.wr K5 W7 (Or.inl (by simp))
    refine o_iconst X7 hx (hb hby d4_38) (1 : Int32) rfl (pc' := 39) rfl ?_
    subst hr
    exact o_retN X7 hx hlk (t := .boolean) (by simp) hret (hb hby d4_39) rfl (by rw [e7]; exact ⟨rfl, N7, K7, A7_o0, F7_o0_nodes, F7_o0_jobs⟩) (by decide) (by decide)
theorem pn_4 : plainName "com/example/gangway/gangway/policy/ShareLevel" = true := by first | (simp [plainName, overriddenIn]; done) | decide +kernel
theorem ef_4 (m : MethodId) (o0 : Addr) (x1 : Int64) (x3 : Int64) : entryFrame m #[(.ref o0), (.long x1), (.long x3)] 5 = (mkF m 0 #[.val (.ref o0), .val (.long x1), .second, .val (.long x3), .second] []) := by first | (simp [entryFrame, mkF, argsToLocals, Value.category]; done) | rfl
def Qd4 (Z : State) (h0 : Heap) (n0 : Nat) (o0 : Addr) (x1 : Int64) (x3 : Int64) (u_nodes : Int64) (u_jobs : Int64) (r : Int32 × Int64 × Int64) : Option Value → Heap → List Loc → Prop := (fun v h L => v = (some (.int r.1)) ∧ Fr n0 L ∧ Keep h0 h [o0] ∧ Exa Z h o0 "com/example/gangway/gangway/policy/ShareLevel" ∧ Fld Z h o0 "com/example/gangway/gangway/policy/ShareLevel" "nodes" "J" (.long r.2.1) ∧ Fld Z h o0 "com/example/gangway/gangway/policy/ShareLevel" "jobs" "J" (.long r.2.2))
set_option maxRecDepth 65536 in
set_option maxHeartbeats 40000000 in
theorem rm4 (l : Launch) (Z : State) (a0 : Array Value) (hw : ∀ d ∈ tables_1, d.before a0 Z = true) (ws : List Jvm.Cond) (o0 : Addr) (x1 : Int64) (x3 : Int64) (u_nodes : Int64) (u_jobs : Int64) (h0 : Heap) (n0 : Nat) (Z0 : n0 ≤ h0.size) (E_o0 : Exa Z h0 o0 "com/example/gangway/gangway/policy/ShareLevel") (F_o0_nodes : Fld Z h0 o0 "com/example/gangway/gangway/policy/ShareLevel" "nodes" "J" (.long u_nodes)) (F_o0_jobs : Fld Z h0 o0 "com/example/gangway/gangway/policy/ShareLevel" "jobs" "J" (.long u_jobs)) (g_o0 : n0 ≤ o0) (hj : u_jobs ≠ 0) (r : Int32 × Int64 × Int64) (hr : f4_0 u_nodes u_jobs x1 x3 = r) :
    MetFree l (⟨"com/example/gangway/gangway/policy/ShareLevel", "takeWhole", "(JJ)Z"⟩ : MethodName) (head1 (Jvm.Cond.code (⟨"com/example/gangway/gangway/policy/ShareLevel", "takeWhole", "(JJ)Z"⟩ : MethodName) prog_155_method_2_code 5 (some .boolean) :: ws) ({ frames := 0, cells := 0, slots := 0, locals := 0 } : Room)) (fun a U => a = #[(.ref o0), (.long x1), (.long x3)] ∧ Z.Warmed39 U.vm ∧ U.heap = h0) (fun _ _ _ _ _ => True) (fun _ U o U' => ∃ v L, o = .returned v ∧ (Qd4 Z h0 n0 o0 x1 x3 u_nodes u_jobs r) v U'.heap L ∧ FrameEnd U o U' L ({ frames := 0, cells := 0, slots := 0, locals := 0 } : Room).cells ({ frames := 0, cells := 0, slots := 0, locals := 0 } : Room).slots) := by
  refine MetFree.of_bodySF (plainFor_of_name pn_4) hisR ?_
  intro p e s m args below meth c s₁ Bd hml0 hP hK
  obtain ⟨rfl, hZ, hh⟩ := hP
  have e0 : s₁.heap = h0 := by rw [← hh, Bd.state]; rfl
  exact OG.cast (ef_4 m o0 x1 x3) (b4_0 Bd.exec hZ hw Bd.bytes hml0 (findClass_of_methodNamed Bd.named) (name_of_methodNamed Bd.named Bd.method).1 Bd.returns Bd.notSynchronized o0 u_nodes u_jobs x1 x3 r (Stand.of_body Bd) e0 (Fr.nil n0) Z0 (Keep.refl h0 [o0]) E_o0 F_o0_nodes F_o0_jobs g_o0 hj hr)
theorem d5_0 : decode method_3_code 0 = .ok (.lload_n 0, 1) := by decide +kernel
theorem d5_1 : decode method_3_code 1 = .ok (.lconst 0, 1) := by decide +kernel
theorem d5_2 : decode method_3_code 2 = .ok (.lcmp, 1) := by decide +kernel
theorem d5_3 : decode method_3_code 3 = .ok (.ifCond .ne 5, 3) := by decide +kernel
theorem d5_6 : decode method_3_code 6 = .ok (.iconst 1, 1) := by decide +kernel
theorem d5_7 : decode method_3_code 7 = .ok (.ireturn, 1) := by decide +kernel
theorem d5_8 : decode method_3_code 8 = .ok (.lload_n 0, 1) := by decide +kernel
theorem d5_9 : decode method_3_code 9 = .ok (.lload 4, 2) := by decide +kernel
theorem d5_11 : decode method_3_code 11 = .ok (.lcmp, 1) := by decide +kernel
theorem d5_12 : decode method_3_code 12 = .ok (.ifCond .gt 10, 3) := by decide +kernel
theorem d5_22 : decode method_3_code 22 = .ok (.iconst 0, 1) := by decide +kernel
theorem d5_23 : decode method_3_code 23 = .ok (.ireturn, 1) := by decide +kernel
theorem d5_15 : decode method_3_code 15 = .ok (.lload_n 2, 1) := by decide +kernel
theorem d5_16 : decode method_3_code 16 = .ok (.lload 4, 2) := by decide +kernel
theorem d5_18 : decode method_3_code 18 = .ok (.lcmp, 1) := by decide +kernel
theorem d5_19 : decode method_3_code 19 = .ok (.ifCond .le 5, 3) := by decide +kernel
theorem d5_24 : decode method_3_code 24 = .ok (.lload_n 2, 1) := by decide +kernel
theorem d5_25 : decode method_3_code 25 = .ok (.lconst 1, 1) := by decide +kernel
theorem d5_26 : decode method_3_code 26 = .ok (.lcmp, 1) := by decide +kernel
theorem d5_27 : decode method_3_code 27 = .ok (.ifCond .ne 5, 3) := by decide +kernel
theorem d5_30 : decode method_3_code 30 = .ok (.iconst 1, 1) := by decide +kernel
theorem d5_31 : decode method_3_code 31 = .ok (.ireturn, 1) := by decide +kernel
theorem d5_32 : decode method_3_code 32 = .ok (.lload_n 0, 1) := by decide +kernel
theorem d5_33 : decode method_3_code 33 = .ok (.lconst 1, 1) := by decide +kernel
theorem d5_34 : decode method_3_code 34 = .ok (.lcmp, 1) := by decide +kernel
theorem d5_35 : decode method_3_code 35 = .ok (.ifCond .ne 5, 3) := by decide +kernel
theorem d5_38 : decode method_3_code 38 = .ok (.iconst 1, 1) := by decide +kernel
theorem d5_39 : decode method_3_code 39 = .ok (.ireturn, 1) := by decide +kernel
theorem d5_40 : decode method_3_code 40 = .ok (.lload_n 0, 1) := by decide +kernel
theorem d5_41 : decode method_3_code 41 = .ok (.ldc2_w 43, 3) := by decide +kernel
theorem d5_44 : decode method_3_code 44 = .ok (.lcmp, 1) := by decide +kernel
theorem d5_45 : decode method_3_code 45 = .ok (.ifCond .ge 26, 3) := by decide +kernel
theorem d5_48 : decode method_3_code 48 = .ok (.lload_n 2, 1) := by decide +kernel
theorem d5_49 : decode method_3_code 49 = .ok (.ldc2_w 43, 3) := by decide +kernel
theorem d5_52 : decode method_3_code 52 = .ok (.lcmp, 1) := by decide +kernel
theorem d5_53 : decode method_3_code 53 = .ok (.ifCond .gt 18, 3) := by decide +kernel
theorem d5_71 : decode method_3_code 71 = .ok (.lload_n 0, 1) := by decide +kernel
theorem d5_72 : decode method_3_code 72 = .ok (.ldc2_w 45, 3) := by decide +kernel
theorem d5_75 : decode method_3_code 75 = .ok (.lcmp, 1) := by decide +kernel
theorem d5_76 : decode method_3_code 76 = .ok (.ifCond .lt 13, 3) := by decide +kernel
theorem d5_89 : decode method_3_code 89 = .ok (.iconst 2, 1) := by decide +kernel
theorem d5_90 : decode method_3_code 90 = .ok (.ireturn, 1) := by decide +kernel
theorem d5_79 : decode method_3_code 79 = .ok (.lload_n 2, 1) := by decide +kernel
theorem d5_80 : decode method_3_code 80 = .ok (.ldc2_w 45, 3) := by decide +kernel
theorem d5_83 : decode method_3_code 83 = .ok (.lcmp, 1) := by decide +kernel
theorem d5_84 : decode method_3_code 84 = .ok (.ifCond .lt 5, 3) := by decide +kernel
theorem d5_87 : decode method_3_code 87 = .ok (.iconst 0, 1) := by decide +kernel
theorem d5_88 : decode method_3_code 88 = .ok (.ireturn, 1) := by decide +kernel
theorem d5_56 : decode method_3_code 56 = .ok (.lload_n 0, 1) := by decide +kernel
theorem d5_57 : decode method_3_code 57 = .ok (.lload_n 2, 1) := by decide +kernel
theorem d5_58 : decode method_3_code 58 = .ok (.lmul, 1) := by decide +kernel
theorem d5_59 : decode method_3_code 59 = .ok (.lload 4, 2) := by decide +kernel
theorem d5_61 : decode method_3_code 61 = .ok (.lcmp, 1) := by decide +kernel
theorem d5_62 : decode method_3_code 62 = .ok (.ifCond .gt 7, 3) := by decide +kernel
theorem d5_69 : decode method_3_code 69 = .ok (.iconst 0, 1) := by decide +kernel
theorem d5_70 : decode method_3_code 70 = .ok (.ireturn, 1) := by decide +kernel
theorem d5_65 : decode method_3_code 65 = .ok (.iconst 1, 1) := by decide +kernel
theorem d5_66 : decode method_3_code 66 = .ok (.goto 4, 3) := by decide +kernel
def f5_71 (x0 : Int64) (x2 : Int64) : Int32 := (if x0 < (4294967296 : Int64) then (2 : Int32) else (if x2 < (4294967296 : Int64) then (2 : Int32) else (0 : Int32)))
set_option maxRecDepth 65536 in
set_option maxHeartbeats 40000000 in
theorem b5_71 {p : Program} {l : Launch} {e : Env} {s : State} {m : MethodId} {args : Array Value} {below : List Frame} {meth : Method} {c : Code} {Z : State} {a0 : Array Value} {h0 : Heap} {n0 : Nat} (hx : p.tables.exec = Jvm.exec) (hZ : Z.Warmed39 s.vm) (hw : ∀ d ∈ tables_1, d.before a0 Z = true) (hby : c.code = method_3_code) (hml : c.maxLocals = 6) (hown : s.vm.findClass "com/example/gangway/gangway/policy/ShareLevelTakeWholePinLaw" = some m.cls) (hnm : meth.name = "expected") (hret : meth.sig.returnType = some .int) (hlk : meth.locks = false)  {T : State} {locs : List Loc} (x0 : Int64) (x2 : Int64) (d4 : Int64) (r : Int32) (X : Stand p l e ({ frames := 0, cells := 0, slots := 0, locals := 0 } : Room) s m args below meth c T locs 0 0) (eT : T.heap = h0) (N : Fr n0 locs) (Z0 : n0 ≤ h0.size) (hr : f5_71 x0 x2 = r) :
    OG p e below s (fun v h L => v = (some (.int r)) ∧ Fr n0 L ∧ h = h0) 0 0 T (mkF m 71 #[.val (.long x0), .second, .val (.long x2), .second, .val (.long d4), .second] []) := by
  have hr : (if x0 < (4294967296 : Int64) then (2 : Int32) else (if x2 < (4294967296 : Int64) then (2 : Int32) else (0 : Int32))) = r := hr
  refine o_lload_n X hx (hb hby d5_71) rfl (pc' := 72) rfl ?_
  refine o_ldc2Long X hx hZ hown (hb hby d5_72) (hw _ (List.mem_of_getElem? (i := 40) rfl)) (pc' := 75) rfl ?_
  refine o_lcmp X hx (hb hby d5_75) (pc' := 76) rfl ?_
  by_cases hc8 : x0 < (4294967296 : Int64)
  · rw [if_pos hc8] at hr
    refine o_ifYes X hx (hb hby d5_76) (l_tlt hc8).1 (pc' := 89) (by decide) (by decide) ?_
    refine o_iconst X hx (hb hby d5_89) (2 : Int32) rfl (pc' := 90) rfl ?_
    subst hr
    exact o_retI X hx hlk hret (hb hby d5_90) ⟨rfl, N, eT⟩ (by decide) (by decide)
  · rw [if_neg hc8] at hr
    refine o_ifNo X hx (hb hby d5_76) (l_flt hc8).1 (pc' := 79) rfl ?_
    refine o_lload_n X hx (hb hby d5_79) rfl (pc' := 80) rfl ?_
    refine o_ldc2Long X hx hZ hown (hb hby d5_80) (hw _ (List.mem_of_getElem? (i := 40) rfl)) (pc' := 83) rfl ?_
    refine o_lcmp X hx (hb hby d5_83) (pc' := 84) rfl ?_
    by_cases hc9 : x2 < (4294967296 : Int64)
    · rw [if_pos hc9] at hr
      refine o_ifYes X hx (hb hby d5_84) (l_tlt hc9).1 (pc' := 89) (by decide) (by decide) ?_
      refine o_iconst X hx (hb hby d5_89) (2 : Int32) rfl (pc' := 90) rfl ?_
      subst hr
      exact o_retI X hx hlk hret (hb hby d5_90) ⟨rfl, N, eT⟩ (by decide) (by decide)
    · rw [if_neg hc9] at hr
      refine o_ifNo X hx (hb hby d5_84) (l_flt hc9).1 (pc' := 87) rfl ?_
      refine o_iconst X hx (hb hby d5_87) (0 : Int32) rfl (pc' := 88) rfl ?_
      subst hr
      exact o_retI X hx hlk hret (hb hby d5_88) ⟨rfl, N, eT⟩ (by decide) (by decide)
def f5_0 (x0 : Int64) (x2 : Int64) (x4 : Int64) : Int32 := (if x0 = (0 : Int64) then (1 : Int32) else (if x4 < x0 then (0 : Int32) else (if x4 < x2 then (0 : Int32) else (if x2 = (1 : Int64) then (1 : Int32) else (if x0 = (1 : Int64) then (1 : Int32) else (if x0 < (2147483648 : Int64) then (if (2147483648 : Int64) < x2 then (f5_71 x0 x2) else (if x4 < (x0 * x2) then (0 : Int32) else (1 : Int32))) else (f5_71 x0 x2)))))))
set_option maxRecDepth 65536 in
set_option maxHeartbeats 40000000 in
theorem b5_0 {p : Program} {l : Launch} {e : Env} {s : State} {m : MethodId} {args : Array Value} {below : List Frame} {meth : Method} {c : Code} {Z : State} {a0 : Array Value} {h0 : Heap} {n0 : Nat} (hx : p.tables.exec = Jvm.exec) (hZ : Z.Warmed39 s.vm) (hw : ∀ d ∈ tables_1, d.before a0 Z = true) (hby : c.code = method_3_code) (hml : c.maxLocals = 6) (hown : s.vm.findClass "com/example/gangway/gangway/policy/ShareLevelTakeWholePinLaw" = some m.cls) (hnm : meth.name = "expected") (hret : meth.sig.returnType = some .int) (hlk : meth.locks = false)  {T : State} {locs : List Loc} (x0 : Int64) (x2 : Int64) (x4 : Int64) (r : Int32) (X : Stand p l e ({ frames := 0, cells := 0, slots := 0, locals := 0 } : Room) s m args below meth c T locs 0 0) (eT : T.heap = h0) (N : Fr n0 locs) (Z0 : n0 ≤ h0.size) (hr : f5_0 x0 x2 x4 = r) :
    OG p e below s (fun v h L => v = (some (.int r)) ∧ Fr n0 L ∧ h = h0) 0 0 T (mkF m 0 #[.val (.long x0), .second, .val (.long x2), .second, .val (.long x4), .second] []) := by
  have hr : (if x0 = (0 : Int64) then (1 : Int32) else (if x4 < x0 then (0 : Int32) else (if x4 < x2 then (0 : Int32) else (if x2 = (1 : Int64) then (1 : Int32) else (if x0 = (1 : Int64) then (1 : Int32) else (if x0 < (2147483648 : Int64) then (if (2147483648 : Int64) < x2 then (f5_71 x0 x2) else (if x4 < (x0 * x2) then (0 : Int32) else (1 : Int32))) else (f5_71 x0 x2))))))) = r := hr
  refine o_lload_n X hx (hb hby d5_0) rfl (pc' := 1) rfl ?_
  refine o_lconst X hx (hb hby d5_1) (0 : Int64) rfl (pc' := 2) rfl ?_
  refine o_lcmp X hx (hb hby d5_2) (pc' := 3) rfl ?_
  by_cases hc1 : x0 = (0 : Int64)
  · rw [if_pos hc1] at hr
    refine o_ifNo X hx (hb hby d5_3) (l_teq hc1).2 (pc' := 6) rfl ?_
    refine o_iconst X hx (hb hby d5_6) (1 : Int32) rfl (pc' := 7) rfl ?_
    subst hr
    exact o_retI X hx hlk hret (hb hby d5_7) ⟨rfl, N, eT⟩ (by decide) (by decide)
  · rw [if_neg hc1] at hr
    refine o_ifYes X hx (hb hby d5_3) (l_feq hc1).2 (pc' := 8) (by decide) (by decide) ?_
    refine o_lload_n X hx (hb hby d5_8) rfl (pc' := 9) rfl ?_
    refine o_lload X hx (hb hby d5_9) rfl (pc' := 11) rfl ?_
    refine o_lcmp X hx (hb hby d5_11) (pc' := 12) rfl ?_
    by_cases hc2 : x4 < x0
    · rw [if_pos hc2] at hr
      refine o_ifYes X hx (hb hby d5_12) (l_tgt hc2).1 (pc' := 22) (by decide) (by decide) ?_
      refine o_iconst X hx (hb hby d5_22) (0 : Int32) rfl (pc' := 23) rfl ?_
      subst hr
      exact o_retI X hx hlk hret (hb hby d5_23) ⟨rfl, N, eT⟩ (by decide) (by decide)
    · rw [if_neg hc2] at hr
      refine o_ifNo X hx (hb hby d5_12) (l_fgt hc2).1 (pc' := 15) rfl ?_
      refine o_lload_n X hx (hb hby d5_15) rfl (pc' := 16) rfl ?_
      refine o_lload X hx (hb hby d5_16) rfl (pc' := 18) rfl ?_
      refine o_lcmp X hx (hb hby d5_18) (pc' := 19) rfl ?_
      by_cases hc3 : x4 < x2
      · rw [if_pos hc3] at hr
        refine o_ifNo X hx (hb hby d5_19) (l_tgt hc3).2 (pc' := 22) rfl ?_
        refine o_iconst X hx (hb hby d5_22) (0 : Int32) rfl (pc' := 23) rfl ?_
        subst hr
        exact o_retI X hx hlk hret (hb hby d5_23) ⟨rfl, N, eT⟩ (by decide) (by decide)
      · rw [if_neg hc3] at hr
        refine o_ifYes X hx (hb hby d5_19) (l_fgt hc3).2 (pc' := 24) (by decide) (by decide) ?_
        refine o_lload_n X hx (hb hby d5_24) rfl (pc' := 25) rfl ?_
        refine o_lconst X hx (hb hby d5_25) (1 : Int64) rfl (pc' := 26) rfl ?_
        refine o_lcmp X hx (hb hby d5_26) (pc' := 27) rfl ?_
        by_cases hc4 : x2 = (1 : Int64)
        · rw [if_pos hc4] at hr
          refine o_ifNo X hx (hb hby d5_27) (l_teq hc4).2 (pc' := 30) rfl ?_
          refine o_iconst X hx (hb hby d5_30) (1 : Int32) rfl (pc' := 31) rfl ?_
          subst hr
          exact o_retI X hx hlk hret (hb hby d5_31) ⟨rfl, N, eT⟩ (by decide) (by decide)
        · rw [if_neg hc4] at hr
          refine o_ifYes X hx (hb hby d5_27) (l_feq hc4).2 (pc' := 32) (by decide) (by decide) ?_
          refine o_lload_n X hx (hb hby d5_32) rfl (pc' := 33) rfl ?_
          refine o_lconst X hx (hb hby d5_33) (1 : Int64) rfl (pc' := 34) rfl ?_
          refine o_lcmp X hx (hb hby d5_34) (pc' := 35) rfl ?_
          by_cases hc5 : x0 = (1 : Int64)
          · rw [if_pos hc5] at hr
            refine o_ifNo X hx (hb hby d5_35) (l_teq hc5).2 (pc' := 38) rfl ?_
            refine o_iconst X hx (hb hby d5_38) (1 : Int32) rfl (pc' := 39) rfl ?_
            subst hr
            exact o_retI X hx hlk hret (hb hby d5_39) ⟨rfl, N, eT⟩ (by decide) (by decide)
          · rw [if_neg hc5] at hr
            refine o_ifYes X hx (hb hby d5_35) (l_feq hc5).2 (pc' := 40) (by decide) (by decide) ?_
            refine o_lload_n X hx (hb hby d5_40) rfl (pc' := 41) rfl ?_
            refine o_ldc2Long X hx hZ hown (hb hby d5_41) (hw _ (List.mem_of_getElem? (i := 39) rfl)) (pc' := 44) rfl ?_
            refine o_lcmp X hx (hb hby d5_44) (pc' := 45) rfl ?_
            by_cases hc6 : x0 < (2147483648 : Int64)
            · rw [if_pos hc6] at hr
              refine o_ifNo X hx (hb hby d5_45) (l_tlt hc6).2 (pc' := 48) rfl ?_
              refine o_lload_n X hx (hb hby d5_48) rfl (pc' := 49) rfl ?_
              refine o_ldc2Long X hx hZ hown (hb hby d5_49) (hw _ (List.mem_of_getElem? (i := 39) rfl)) (pc' := 52) rfl ?_
              refine o_lcmp X hx (hb hby d5_52) (pc' := 53) rfl ?_
              by_cases hc7 : (2147483648 : Int64) < x2
              · rw [if_pos hc7] at hr
                refine o_ifYes X hx (hb hby d5_53) (l_tgt hc7).1 (pc' := 71) (by decide) (by decide) ?_
                exact b5_71 hx hZ hw hby hml hown hnm hret hlk x0 x2 x4 r X eT N Z0 hr
              · rw [if_neg hc7] at hr
                refine o_ifNo X hx (hb hby d5_53) (l_fgt hc7).1 (pc' := 56) rfl ?_
                refine o_lload_n X hx (hb hby d5_56) rfl (pc' := 57) rfl ?_
                refine o_lload_n X hx (hb hby d5_57) rfl (pc' := 58) rfl ?_
                refine o_lmul X hx (hb hby d5_58) (pc' := 59) rfl ?_
                refine o_lload X hx (hb hby d5_59) rfl (pc' := 61) rfl ?_
                refine o_lcmp X hx (hb hby d5_61) (pc' := 62) rfl ?_
                by_cases hc10 : x4 < (x0 * x2)
                · rw [if_pos hc10] at hr
                  refine o_ifYes X hx (hb hby d5_62) (l_tgt hc10).1 (pc' := 69) (by decide) (by decide) ?_
                  refine o_iconst X hx (hb hby d5_69) (0 : Int32) rfl (pc' := 70) rfl ?_
                  subst hr
                  exact o_retI X hx hlk hret (hb hby d5_70) ⟨rfl, N, eT⟩ (by decide) (by decide)
                · rw [if_neg hc10] at hr
                  refine o_ifNo X hx (hb hby d5_62) (l_fgt hc10).1 (pc' := 65) rfl ?_
                  refine o_iconst X hx (hb hby d5_65) (1 : Int32) rfl (pc' := 66) rfl ?_
                  refine o_goto X hx (hb hby d5_66) (pc' := 70) (by decide) (by decide) ?_
                  subst hr
                  exact o_retI X hx hlk hret (hb hby d5_70) ⟨rfl, N, eT⟩ (by decide) (by decide)
            · rw [if_neg hc6] at hr
              refine o_ifYes X hx (hb hby d5_45) (l_flt hc6).2 (pc' := 71) (by decide) (by decide) ?_
              exact b5_71 hx hZ hw hby hml hown hnm hret hlk x0 x2 x4 r X eT N Z0 hr
theorem pn_5 : plainName "com/example/gangway/gangway/policy/ShareLevelTakeWholePinLaw" = true := by first | (simp [plainName, overriddenIn]; done) | decide +kernel
theorem ef_5 (m : MethodId) (x0 : Int64) (x2 : Int64) (x4 : Int64) : entryFrame m #[(.long x0), (.long x2), (.long x4)] 6 = (mkF m 0 #[.val (.long x0), .second, .val (.long x2), .second, .val (.long x4), .second] []) := by first | (simp [entryFrame, mkF, argsToLocals, Value.category]; done) | rfl
def Qd5 (Z : State) (h0 : Heap) (n0 : Nat) (x0 : Int64) (x2 : Int64) (x4 : Int64) (r : Int32) : Option Value → Heap → List Loc → Prop := (fun v h L => v = (some (.int r)) ∧ Fr n0 L ∧ h = h0)
set_option maxRecDepth 65536 in
set_option maxHeartbeats 40000000 in
theorem rm5 (l : Launch) (Z : State) (a0 : Array Value) (hw : ∀ d ∈ tables_1, d.before a0 Z = true) (ws : List Jvm.Cond) (x0 : Int64) (x2 : Int64) (x4 : Int64) (h0 : Heap) (n0 : Nat) (Z0 : n0 ≤ h0.size) (r : Int32) (hr : f5_0 x0 x2 x4 = r) :
    MetFree l (⟨"com/example/gangway/gangway/policy/ShareLevelTakeWholePinLaw", "expected", "(JJJ)I"⟩ : MethodName) (head1 (Jvm.Cond.code (⟨"com/example/gangway/gangway/policy/ShareLevelTakeWholePinLaw", "expected", "(JJJ)I"⟩ : MethodName) method_3_code 6 (some .int) :: ws) ({ frames := 0, cells := 0, slots := 0, locals := 0 } : Room)) (fun a U => a = #[(.long x0), (.long x2), (.long x4)] ∧ Z.Warmed39 U.vm ∧ U.heap = h0) (fun _ _ _ _ _ => True) (fun _ U o U' => ∃ v L, o = .returned v ∧ (Qd5 Z h0 n0 x0 x2 x4 r) v U'.heap L ∧ FrameEnd U o U' L ({ frames := 0, cells := 0, slots := 0, locals := 0 } : Room).cells ({ frames := 0, cells := 0, slots := 0, locals := 0 } : Room).slots) := by
  refine MetFree.of_bodySF (plainFor_of_name pn_5) hisR ?_
  intro p e s m args below meth c s₁ Bd hml0 hP hK
  obtain ⟨rfl, hZ, hh⟩ := hP
  have e0 : s₁.heap = h0 := by rw [← hh, Bd.state]; rfl
  exact OG.cast (ef_5 m x0 x2 x4) (b5_0 Bd.exec hZ hw Bd.bytes hml0 (findClass_of_methodNamed Bd.named) (name_of_methodNamed Bd.named Bd.method).1 Bd.returns Bd.notSynchronized x0 x2 x4 r (Stand.of_body Bd) e0 (Fr.nil n0) Z0 hr)
theorem d6_0 : decode prog_155_method_3_code 0 = .ok (.aload_n 0, 1) := by decide +kernel
theorem d6_1 : decode prog_155_method_3_code 1 = .ok (.getfield 7, 3) := by decide +kernel
theorem d6_4 : decode prog_155_method_3_code 4 = .ok (.lreturn, 1) := by decide +kernel
def f6_0 (u_nodes : Int64) : Int64 := u_nodes
set_option maxRecDepth 65536 in
set_option maxHeartbeats 40000000 in
theorem b6_0 {p : Program} {l : Launch} {e : Env} {s : State} {m : MethodId} {args : Array Value} {below : List Frame} {meth : Method} {c : Code} {Z : State} {a0 : Array Value} {h0 : Heap} {n0 : Nat} (hx : p.tables.exec = Jvm.exec) (hZ : Z.Warmed39 s.vm) (hw : ∀ d ∈ tables_1, d.before a0 Z = true) (hby : c.code = prog_155_method_3_code) (hml : c.maxLocals = 1) (hown : s.vm.findClass "com/example/gangway/gangway/policy/ShareLevel" = some m.cls) (hnm : meth.name = "nodes") (hret : meth.sig.returnType = some .long) (hlk : meth.locks = false) (o0 : Addr) {T : State} {locs : List Loc} (u_nodes : Int64) (r : Int64) (X : Stand p l e ({ frames := 0, cells := 0, slots := 0, locals := 0 } : Room) s m args below meth c T locs 0 0) (eT : T.heap = h0) (N : Fr n0 locs) (Z0 : n0 ≤ h0.size) (E_o0 : Exa Z h0 o0 "com/example/gangway/gangway/policy/ShareLevel") (F_o0_nodes : Fld Z h0 o0 "com/example/gangway/gangway/policy/ShareLevel" "nodes" "J" (.long u_nodes)) (hr : f6_0 u_nodes = r) :
    OG p e below s (fun v h L => v = (some (.long r)) ∧ Fr n0 L ∧ h = h0) 0 0 T (mkF m 0 #[.val (.ref o0)] []) := by
  have hr : u_nodes = r := hr
  refine o_aload_n X hx (hb hby d6_0) rfl rfl (pc' := 1) rfl ?_
  refine o_getF X hx hZ hown eT (hw _ (List.mem_of_getElem? (i := 14) rfl)) Via.refl F_o0_nodes (hb hby d6_1) (pc' := 4) rfl ?_
  intro T1 X1 e1
  subst hr
  exact o_retJ X1 hx hlk hret (hb hby d6_4) ⟨rfl, N, e1⟩ (by decide) (by decide)
theorem pn_6 : plainName "com/example/gangway/gangway/policy/ShareLevel" = true := by first | (simp [plainName, overriddenIn]; done) | decide +kernel
theorem ef_6 (m : MethodId) (o0 : Addr) : entryFrame m #[(.ref o0)] 1 = (mkF m 0 #[.val (.ref o0)] []) := by first | (simp [entryFrame, mkF, argsToLocals, Value.category]; done) | rfl
def Qd6 (Z : State) (h0 : Heap) (n0 : Nat) (o0 : Addr) (u_nodes : Int64) (r : Int64) : Option Value → Heap → List Loc → Prop := (fun v h L => v = (some (.long r)) ∧ Fr n0 L ∧ h = h0)
set_option maxRecDepth 65536 in
set_option maxHeartbeats 40000000 in
theorem rm6 (l : Launch) (Z : State) (a0 : Array Value) (hw : ∀ d ∈ tables_1, d.before a0 Z = true) (ws : List Jvm.Cond) (o0 : Addr) (u_nodes : Int64) (h0 : Heap) (n0 : Nat) (Z0 : n0 ≤ h0.size) (E_o0 : Exa Z h0 o0 "com/example/gangway/gangway/policy/ShareLevel") (F_o0_nodes : Fld Z h0 o0 "com/example/gangway/gangway/policy/ShareLevel" "nodes" "J" (.long u_nodes)) (r : Int64) (hr : f6_0 u_nodes = r) :
    MetFree l (⟨"com/example/gangway/gangway/policy/ShareLevel", "nodes", "()J"⟩ : MethodName) (head1 (Jvm.Cond.code (⟨"com/example/gangway/gangway/policy/ShareLevel", "nodes", "()J"⟩ : MethodName) prog_155_method_3_code 1 (some .long) :: ws) ({ frames := 0, cells := 0, slots := 0, locals := 0 } : Room)) (fun a U => a = #[(.ref o0)] ∧ Z.Warmed39 U.vm ∧ U.heap = h0) (fun _ _ _ _ _ => True) (fun _ U o U' => ∃ v L, o = .returned v ∧ (Qd6 Z h0 n0 o0 u_nodes r) v U'.heap L ∧ FrameEnd U o U' L ({ frames := 0, cells := 0, slots := 0, locals := 0 } : Room).cells ({ frames := 0, cells := 0, slots := 0, locals := 0 } : Room).slots) := by
  refine MetFree.of_bodySF (plainFor_of_name pn_6) hisR ?_
  intro p e s m args below meth c s₁ Bd hml0 hP hK
  obtain ⟨rfl, hZ, hh⟩ := hP
  have e0 : s₁.heap = h0 := by rw [← hh, Bd.state]; rfl
  exact OG.cast (ef_6 m o0) (b6_0 Bd.exec hZ hw Bd.bytes hml0 (findClass_of_methodNamed Bd.named) (name_of_methodNamed Bd.named Bd.method).1 Bd.returns Bd.notSynchronized o0 u_nodes r (Stand.of_body Bd) e0 (Fr.nil n0) Z0 E_o0 F_o0_nodes hr)
theorem d7_0 : decode prog_155_method_4_code 0 = .ok (.aload_n 0, 1) := by decide +kernel
theorem d7_1 : decode prog_155_method_4_code 1 = .ok (.getfield 13, 3) := by decide +kernel
theorem d7_4 : decode prog_155_method_4_code 4 = .ok (.lreturn, 1) := by decide +kernel
def f7_0 (u_jobs : Int64) : Int64 := u_jobs
set_option maxRecDepth 65536 in
set_option maxHeartbeats 40000000 in
theorem b7_0 {p : Program} {l : Launch} {e : Env} {s : State} {m : MethodId} {args : Array Value} {below : List Frame} {meth : Method} {c : Code} {Z : State} {a0 : Array Value} {h0 : Heap} {n0 : Nat} (hx : p.tables.exec = Jvm.exec) (hZ : Z.Warmed39 s.vm) (hw : ∀ d ∈ tables_1, d.before a0 Z = true) (hby : c.code = prog_155_method_4_code) (hml : c.maxLocals = 1) (hown : s.vm.findClass "com/example/gangway/gangway/policy/ShareLevel" = some m.cls) (hnm : meth.name = "jobs") (hret : meth.sig.returnType = some .long) (hlk : meth.locks = false) (o0 : Addr) {T : State} {locs : List Loc} (u_jobs : Int64) (r : Int64) (X : Stand p l e ({ frames := 0, cells := 0, slots := 0, locals := 0 } : Room) s m args below meth c T locs 0 0) (eT : T.heap = h0) (N : Fr n0 locs) (Z0 : n0 ≤ h0.size) (E_o0 : Exa Z h0 o0 "com/example/gangway/gangway/policy/ShareLevel") (F_o0_jobs : Fld Z h0 o0 "com/example/gangway/gangway/policy/ShareLevel" "jobs" "J" (.long u_jobs)) (hr : f7_0 u_jobs = r) :
    OG p e below s (fun v h L => v = (some (.long r)) ∧ Fr n0 L ∧ h = h0) 0 0 T (mkF m 0 #[.val (.ref o0)] []) := by
  have hr : u_jobs = r := hr
  refine o_aload_n X hx (hb hby d7_0) rfl rfl (pc' := 1) rfl ?_
  refine o_getF X hx hZ hown eT (hw _ (List.mem_of_getElem? (i := 16) rfl)) Via.refl F_o0_jobs (hb hby d7_1) (pc' := 4) rfl ?_
  intro T1 X1 e1
  subst hr
  exact o_retJ X1 hx hlk hret (hb hby d7_4) ⟨rfl, N, e1⟩ (by decide) (by decide)
theorem pn_7 : plainName "com/example/gangway/gangway/policy/ShareLevel" = true := by first | (simp [plainName, overriddenIn]; done) | decide +kernel
theorem ef_7 (m : MethodId) (o0 : Addr) : entryFrame m #[(.ref o0)] 1 = (mkF m 0 #[.val (.ref o0)] []) := by first | (simp [entryFrame, mkF, argsToLocals, Value.category]; done) | rfl
def Qd7 (Z : State) (h0 : Heap) (n0 : Nat) (o0 : Addr) (u_jobs : Int64) (r : Int64) : Option Value → Heap → List Loc → Prop := (fun v h L => v = (some (.long r)) ∧ Fr n0 L ∧ h = h0)
set_option maxRecDepth 65536 in
set_option maxHeartbeats 40000000 in
theorem rm7 (l : Launch) (Z : State) (a0 : Array Value) (hw : ∀ d ∈ tables_1, d.before a0 Z = true) (ws : List Jvm.Cond) (o0 : Addr) (u_jobs : Int64) (h0 : Heap) (n0 : Nat) (Z0 : n0 ≤ h0.size) (E_o0 : Exa Z h0 o0 "com/example/gangway/gangway/policy/ShareLevel") (F_o0_jobs : Fld Z h0 o0 "com/example/gangway/gangway/policy/ShareLevel" "jobs" "J" (.long u_jobs)) (r : Int64) (hr : f7_0 u_jobs = r) :
    MetFree l (⟨"com/example/gangway/gangway/policy/ShareLevel", "jobs", "()J"⟩ : MethodName) (head1 (Jvm.Cond.code (⟨"com/example/gangway/gangway/policy/ShareLevel", "jobs", "()J"⟩ : MethodName) prog_155_method_4_code 1 (some .long) :: ws) ({ frames := 0, cells := 0, slots := 0, locals := 0 } : Room)) (fun a U => a = #[(.ref o0)] ∧ Z.Warmed39 U.vm ∧ U.heap = h0) (fun _ _ _ _ _ => True) (fun _ U o U' => ∃ v L, o = .returned v ∧ (Qd7 Z h0 n0 o0 u_jobs r) v U'.heap L ∧ FrameEnd U o U' L ({ frames := 0, cells := 0, slots := 0, locals := 0 } : Room).cells ({ frames := 0, cells := 0, slots := 0, locals := 0 } : Room).slots) := by
  refine MetFree.of_bodySF (plainFor_of_name pn_7) hisR ?_
  intro p e s m args below meth c s₁ Bd hml0 hP hK
  obtain ⟨rfl, hZ, hh⟩ := hP
  have e0 : s₁.heap = h0 := by rw [← hh, Bd.state]; rfl
  exact OG.cast (ef_7 m o0) (b7_0 Bd.exec hZ hw Bd.bytes hml0 (findClass_of_methodNamed Bd.named) (name_of_methodNamed Bd.named Bd.method).1 Bd.returns Bd.notSynchronized o0 u_jobs r (Stand.of_body Bd) e0 (Fr.nil n0) Z0 E_o0 F_o0_jobs hr)
theorem own_ne {L : Int64} (h : 1 ≤ L.toInt) : L ≠ 0 := by
  intro q; rw [q] at h; exact absurd h (by decide)
theorem own_add1 (x : Int64) : 1 ≤ ((x &&& (2147483647 : Int64)) + (1 : Int64)).toInt := by
  have := own_and31' x; have := own_ladd (x &&& (2147483647 : Int64)) 1
  rw [show (1 : Int64).toInt = 1 from rfl] at this; omega
theorem own_max1 (x : Int64) : 1 ≤ (f1_0 (1 : Int64) x).toInt := by
  unfold f1_0; split
  · rename_i h; rw [Int64.lt_iff_toInt_lt, show (1 : Int64).toInt = 1 from rfl] at h; omega
  · decide
theorem own_max0 (x : Int64) : 0 ≤ (f1_0 (0 : Int64) x).toInt := by
  unfold f1_0; split
  · rename_i h; rw [Int64.lt_iff_toInt_lt, show (0 : Int64).toInt = 0 from rfl] at h; omega
  · decide

theorem pd_0 : parseMethodDescriptor "(JJ)V" = some ⟨[.long, .long], none⟩ := by decide +kernel
theorem pd_1 : parseMethodDescriptor "(JJ)Z" = some ⟨[.long, .long], some .boolean⟩ := by decide +kernel
theorem pd_2 : parseMethodDescriptor "(JJJ)I" = some ⟨[.long, .long, .long], some .int⟩ := by decide +kernel
theorem pd_3 : parseMethodDescriptor "()J" = some ⟨[], some .long⟩ := by decide +kernel
theorem pd_4 : parseMethodDescriptor "(JJ)J" = some ⟨[.long, .long], some .long⟩ := by decide +kernel
def f0_256 (u_nodes_a4 : Int64) (u_jobs_a4 : Int64) (x10 : Int64) (x12 : Int64) (x14 : Int64) (x16 : Int64) (x19 : Int32) : Int32 := (if x19 = (0 : Int32) then (if (f6_0 u_nodes_a4) = x14 then (if (f7_0 u_jobs_a4) = x12 then (1 : Int32) else (0 : Int32)) else (0 : Int32)) else (if (f6_0 u_nodes_a4) = (x14 - (x10 * x16)) then (if (f7_0 u_jobs_a4) = (x12 - x16) then (1 : Int32) else (0 : Int32)) else (0 : Int32)))
set_option maxRecDepth 65536 in
set_option maxHeartbeats 40000000 in
theorem b0_256 {p : Program} {l : Launch} {e : Env} {s : State} {m : MethodId} {args : Array Value} {below : List Frame} {meth : Method} {c : Code} {Z : State} {a0 : Array Value} {n0 : Nat} (hx : p.tables.exec = Jvm.exec) (hZ : Z.Warmed39 s.vm) (hw : ∀ d ∈ tables_1, d.before a0 Z = true) (hby : c.code = code) (hml : c.maxLocals = 22) (hown : s.vm.findClass "com/example/gangway/gangway/policy/ShareLevelTakeWholePinLaw" = some m.cls) (hnm : meth.name = "law") (hret : meth.sig.returnType = some .boolean) (hlk : meth.locks = false)  {T : State} {locs : List Loc} {h : Heap} (a4 : Addr) (u_nodes_a4 : Int64) (u_jobs_a4 : Int64) (d0 : Int64) (d2 : Int64) (d4 : Int64) (d6 : Int64) (d8 : Int32) (d9 : Int32) (x10 : Int64) (x12 : Int64) (x14 : Int64) (x16 : Int64) (x19 : Int32) (d20 : Int32) (r : Int32) (X : Stand p l e room_1 s m args below meth c T locs 1 2) (eT : T.heap = h) (N : Fr n0 locs) (hsz : n0 ≤ h.size) (E_a4 : Exa Z h a4 "com/example/gangway/gangway/policy/ShareLevel") (F_a4_nodes : Fld Z h a4 "com/example/gangway/gangway/policy/ShareLevel" "nodes" "J" (.long u_nodes_a4)) (F_a4_jobs : Fld Z h a4 "com/example/gangway/gangway/policy/ShareLevel" "jobs" "J" (.long u_jobs_a4)) (g_a4 : n0 ≤ a4) (hp10 : (0 ≤ x10.toInt)) (hp12 : (1 ≤ x12.toInt)) (hp14 : (0 ≤ x14.toInt)) (hr : f0_256 u_nodes_a4 u_jobs_a4 x10 x12 x14 x16 x19 = r) :
    OG p e below s (fun v h L => v = (some (.int r)) ∧ Fr n0 L) 16 128 T (mkF m 256 #[.val (.long d0), .second, .val (.long d2), .second, .val (.long d4), .second, .val (.long d6), .second, .val (.int d8), .val (.int d9), .val (.long x10), .second, .val (.long x12), .second, .val (.long x14), .second, .val (.long x16), .second, .val (.ref a4), .val (.int x19), .val (.int d20), .unset] []) := by
  have hr : (if x19 = (0 : Int32) then (if (f6_0 u_nodes_a4) = x14 then (if (f7_0 u_jobs_a4) = x12 then (1 : Int32) else (0 : Int32)) else (0 : Int32)) else (if (f6_0 u_nodes_a4) = (x14 - (x10 * x16)) then (if (f7_0 u_jobs_a4) = (x12 - x16) then (1 : Int32) else (0 : Int32)) else (0 : Int32))) = r := hr
  refine o_iload X hx (hb hby at_256) rfl (pc' := 258) rfl ?_
  by_cases hc12 : x19 = (0 : Int32)
  · rw [if_pos hc12] at hr
    refine o_ifYes X hx (hb hby at_258) (z_teq hc12).1 (pc' := 298) (by decide) (by decide) ?_
    refine o_aload X hx (hb hby at_298) rfl rfl (pc' := 300) rfl ?_
    refine o_virtual X hx hZ (argsL := []) (rest := []) (a := a4) 0 hown eT (hw _ (List.mem_of_getElem? (i := 27) rfl)) (hw _ (List.mem_of_getElem? (i := 28) rfl)) (hw _ (List.mem_of_getElem? (i := 30) rfl)) (hw _ (List.mem_of_getElem? (i := 29) rfl)) (hw _ (List.mem_of_getElem? (i := 7) rfl)) (hw _ (List.mem_of_getElem? (i := 31) rfl)) (by decide) E_a4 (rm6 l Z a0 hw [] a4 u_nodes_a4 h n0 hsz E_a4 F_a4_nodes (f6_0 u_nodes_a4) rfl) (by decide) (by decide) (by rw [hml]; rfl) (lenOf pd_3 rfl) rfl (Nat.le_refl _) (hb hby at_300) (pc' := 303) rfl (by decide) (by decide) ?_
    rintro _ T13 L13 X13 ⟨rfl, N13, e13⟩
    replace X13 : Stand p l e room_1 s m args below meth c T13 (locs ++ L13) 1 2 := X13
    have M13 := Fr.app N N13
    dsimp only [Option.toList, List.cons_append, List.nil_append]
    refine o_lload X13 hx (hb hby at_303) rfl (pc' := 305) rfl ?_
    refine o_lcmp X13 hx (hb hby at_305) (pc' := 306) rfl ?_
    by_cases hc14 : (f6_0 u_nodes_a4) = x14
    · rw [if_pos hc14] at hr
      refine o_ifNo X13 hx (hb hby at_306) (l_teq hc14).2 (pc' := 309) rfl ?_
      refine o_aload X13 hx (hb hby at_309) rfl rfl (pc' := 311) rfl ?_
      refine o_virtual X13 hx hZ (argsL := []) (rest := []) (a := a4) 0 hown e13 (hw _ (List.mem_of_getElem? (i := 32) rfl)) (hw _ (List.mem_of_getElem? (i := 33) rfl)) (hw _ (List.mem_of_getElem? (i := 35) rfl)) (hw _ (List.mem_of_getElem? (i := 34) rfl)) (hw _ (List.mem_of_getElem? (i := 7) rfl)) (hw _ (List.mem_of_getElem? (i := 36) rfl)) (by decide) E_a4 (rm7 l Z a0 hw [] a4 u_jobs_a4 h n0 hsz E_a4 F_a4_jobs (f7_0 u_jobs_a4) rfl) (by decide) (by decide) (by rw [hml]; rfl) (lenOf pd_3 rfl) rfl (Nat.le_refl _) (hb hby at_311) (pc' := 314) rfl (by decide) (by decide) ?_
      rintro _ T15 L15 X15 ⟨rfl, N15, e15⟩
      replace X15 : Stand p l e room_1 s m args below meth c T15 ((locs ++ L13) ++ L15) 1 2 := X15
      have M15 := Fr.app M13 N15
      dsimp only [Option.toList, List.cons_append, List.nil_append]
      refine o_lload X15 hx (hb hby at_314) rfl (pc' := 316) rfl ?_
      refine o_lcmp X15 hx (hb hby at_316) (pc' := 317) rfl ?_
      by_cases hc16 : (f7_0 u_jobs_a4) = x12
      · rw [if_pos hc16] at hr
        refine o_ifNo X15 hx (hb hby at_317) (l_teq hc16).2 (pc' := 320) rfl ?_
        refine o_iconst X15 hx (hb hby at_320) (1 : Int32) rfl (pc' := 321) rfl ?_
        refine o_goto X15 hx (hb hby at_321) (pc' := 325) (by decide) (by decide) ?_
        subst hr
        exact o_retN X15 hx hlk (t := .boolean) (by simp) hret (hb hby at_325) rfl ⟨rfl, M15⟩ (by decide) (by decide)
      · rw [if_neg hc16] at hr
        refine o_ifYes X15 hx (hb hby at_317) (l_feq hc16).2 (pc' := 324) (by decide) (by decide) ?_
        refine o_iconst X15 hx (hb hby at_324) (0 : Int32) rfl (pc' := 325) rfl ?_
        subst hr
        exact o_retN X15 hx hlk (t := .boolean) (by simp) hret (hb hby at_325) rfl ⟨rfl, M15⟩ (by decide) (by decide)
    · rw [if_neg hc14] at hr
      refine o_ifYes X13 hx (hb hby at_306) (l_feq hc14).2 (pc' := 324) (by decide) (by decide) ?_
      refine o_iconst X13 hx (hb hby at_324) (0 : Int32) rfl (pc' := 325) rfl ?_
      subst hr
      exact o_retN X13 hx hlk (t := .boolean) (by simp) hret (hb hby at_325) rfl ⟨rfl, M13⟩ (by decide) (by decide)
  · rw [if_neg hc12] at hr
    refine o_ifNo X hx (hb hby at_258) (z_feq hc12).1 (pc' := 261) rfl ?_
    refine o_aload X hx (hb hby at_261) rfl rfl (pc' := 263) rfl ?_
    refine o_virtual X hx hZ (argsL := []) (rest := []) (a := a4) 0 hown eT (hw _ (List.mem_of_getElem? (i := 27) rfl)) (hw _ (List.mem_of_getElem? (i := 28) rfl)) (hw _ (List.mem_of_getElem? (i := 30) rfl)) (hw _ (List.mem_of_getElem? (i := 29) rfl)) (hw _ (List.mem_of_getElem? (i := 7) rfl)) (hw _ (List.mem_of_getElem? (i := 31) rfl)) (by decide) E_a4 (rm6 l Z a0 hw [] a4 u_nodes_a4 h n0 hsz E_a4 F_a4_nodes (f6_0 u_nodes_a4) rfl) (by decide) (by decide) (by rw [hml]; rfl) (lenOf pd_3 rfl) rfl (Nat.le_refl _) (hb hby at_263) (pc' := 266) rfl (by decide) (by decide) ?_
    rintro _ T17 L17 X17 ⟨rfl, N17, e17⟩
    replace X17 : Stand p l e room_1 s m args below meth c T17 (locs ++ L17) 1 2 := X17
    have M17 := Fr.app N N17
    dsimp only [Option.toList, List.cons_append, List.nil_append]
    refine o_lload X17 hx (hb hby at_266) rfl (pc' := 268) rfl ?_
    refine o_lload X17 hx (hb hby at_268) rfl (pc' := 270) rfl ?_
    refine o_lload X17 hx (hb hby at_270) rfl (pc' := 272) rfl ?_
    refine o_lmul X17 hx (hb hby at_272) (pc' := 273) rfl ?_
    refine o_lsub X17 hx (hb hby at_273) (pc' := 274) rfl ?_
    refine o_lcmp X17 hx (hb hby at_274) (pc' := 275) rfl ?_
    by_cases hc18 : (f6_0 u_nodes_a4) = (x14 - (x10 * x16))
    · rw [if_pos hc18] at hr
      refine o_ifNo X17 hx (hb hby at_275) (l_teq hc18).2 (pc' := 278) rfl ?_
      refine o_aload X17 hx (hb hby at_278) rfl rfl (pc' := 280) rfl ?_
      refine o_virtual X17 hx hZ (argsL := []) (rest := []) (a := a4) 0 hown e17 (hw _ (List.mem_of_getElem? (i := 32) rfl)) (hw _ (List.mem_of_getElem? (i := 33) rfl)) (hw _ (List.mem_of_getElem? (i := 35) rfl)) (hw _ (List.mem_of_getElem? (i := 34) rfl)) (hw _ (List.mem_of_getElem? (i := 7) rfl)) (hw _ (List.mem_of_getElem? (i := 36) rfl)) (by decide) E_a4 (rm7 l Z a0 hw [] a4 u_jobs_a4 h n0 hsz E_a4 F_a4_jobs (f7_0 u_jobs_a4) rfl) (by decide) (by decide) (by rw [hml]; rfl) (lenOf pd_3 rfl) rfl (Nat.le_refl _) (hb hby at_280) (pc' := 283) rfl (by decide) (by decide) ?_
      rintro _ T19 L19 X19 ⟨rfl, N19, e19⟩
      replace X19 : Stand p l e room_1 s m args below meth c T19 ((locs ++ L17) ++ L19) 1 2 := X19
      have M19 := Fr.app M17 N19
      dsimp only [Option.toList, List.cons_append, List.nil_append]
      refine o_lload X19 hx (hb hby at_283) rfl (pc' := 285) rfl ?_
      refine o_lload X19 hx (hb hby at_285) rfl (pc' := 287) rfl ?_
      refine o_lsub X19 hx (hb hby at_287) (pc' := 288) rfl ?_
      refine o_lcmp X19 hx (hb hby at_288) (pc' := 289) rfl ?_
      by_cases hc20 : (f7_0 u_jobs_a4) = (x12 - x16)
      · rw [if_pos hc20] at hr
        refine o_ifNo X19 hx (hb hby at_289) (l_teq hc20).2 (pc' := 292) rfl ?_
        refine o_iconst X19 hx (hb hby at_292) (1 : Int32) rfl (pc' := 293) rfl ?_
        refine o_goto X19 hx (hb hby at_293) (pc' := 297) (by decide) (by decide) ?_
        subst hr
        exact o_retN X19 hx hlk (t := .boolean) (by simp) hret (hb hby at_297) rfl ⟨rfl, M19⟩ (by decide) (by decide)
      · rw [if_neg hc20] at hr
        refine o_ifYes X19 hx (hb hby at_289) (l_feq hc20).2 (pc' := 296) (by decide) (by decide) ?_
        refine o_iconst X19 hx (hb hby at_296) (0 : Int32) rfl (pc' := 297) rfl ?_
        subst hr
        exact o_retN X19 hx hlk (t := .boolean) (by simp) hret (hb hby at_297) rfl ⟨rfl, M19⟩ (by decide) (by decide)
    · rw [if_neg hc18] at hr
      refine o_ifYes X17 hx (hb hby at_275) (l_feq hc18).2 (pc' := 296) (by decide) (by decide) ?_
      refine o_iconst X17 hx (hb hby at_296) (0 : Int32) rfl (pc' := 297) rfl ?_
      subst hr
      exact o_retN X17 hx hlk (t := .boolean) (by simp) hret (hb hby at_297) rfl ⟨rfl, M17⟩ (by decide) (by decide)
def f0_244 (u_nodes_a4 : Int64) (u_jobs_a4 : Int64) (x10 : Int64) (x12 : Int64) (x14 : Int64) (x16 : Int64) (x19 : Int32) (x20 : Int32) : Int32 := (if x20 = (0 : Int32) then (if x19 = (0 : Int32) then (f0_256 u_nodes_a4 u_jobs_a4 x10 x12 x14 x16 x19) else (0 : Int32)) else (f0_256 u_nodes_a4 u_jobs_a4 x10 x12 x14 x16 x19))
set_option maxRecDepth 65536 in
set_option maxHeartbeats 40000000 in
theorem b0_244 {p : Program} {l : Launch} {e : Env} {s : State} {m : MethodId} {args : Array Value} {below : List Frame} {meth : Method} {c : Code} {Z : State} {a0 : Array Value} {n0 : Nat} (hx : p.tables.exec = Jvm.exec) (hZ : Z.Warmed39 s.vm) (hw : ∀ d ∈ tables_1, d.before a0 Z = true) (hby : c.code = code) (hml : c.maxLocals = 22) (hown : s.vm.findClass "com/example/gangway/gangway/policy/ShareLevelTakeWholePinLaw" = some m.cls) (hnm : meth.name = "law") (hret : meth.sig.returnType = some .boolean) (hlk : meth.locks = false)  {T : State} {locs : List Loc} {h : Heap} (a4 : Addr) (u_nodes_a4 : Int64) (u_jobs_a4 : Int64) (d0 : Int64) (d2 : Int64) (d4 : Int64) (d6 : Int64) (d8 : Int32) (d9 : Int32) (x10 : Int64) (x12 : Int64) (x14 : Int64) (x16 : Int64) (x19 : Int32) (x20 : Int32) (r : Int32) (X : Stand p l e room_1 s m args below meth c T locs 1 2) (eT : T.heap = h) (N : Fr n0 locs) (hsz : n0 ≤ h.size) (E_a4 : Exa Z h a4 "com/example/gangway/gangway/policy/ShareLevel") (F_a4_nodes : Fld Z h a4 "com/example/gangway/gangway/policy/ShareLevel" "nodes" "J" (.long u_nodes_a4)) (F_a4_jobs : Fld Z h a4 "com/example/gangway/gangway/policy/ShareLevel" "jobs" "J" (.long u_jobs_a4)) (g_a4 : n0 ≤ a4) (hp10 : (0 ≤ x10.toInt)) (hp12 : (1 ≤ x12.toInt)) (hp14 : (0 ≤ x14.toInt)) (hr : f0_244 u_nodes_a4 u_jobs_a4 x10 x12 x14 x16 x19 x20 = r) :
    OG p e below s (fun v h L => v = (some (.int r)) ∧ Fr n0 L) 16 128 T (mkF m 244 #[.val (.long d0), .second, .val (.long d2), .second, .val (.long d4), .second, .val (.long d6), .second, .val (.int d8), .val (.int d9), .val (.long x10), .second, .val (.long x12), .second, .val (.long x14), .second, .val (.long x16), .second, .val (.ref a4), .val (.int x19), .val (.int x20), .unset] []) := by
  have hr : (if x20 = (0 : Int32) then (if x19 = (0 : Int32) then (f0_256 u_nodes_a4 u_jobs_a4 x10 x12 x14 x16 x19) else (0 : Int32)) else (f0_256 u_nodes_a4 u_jobs_a4 x10 x12 x14 x16 x19)) = r := hr
  refine o_iload X hx (hb hby at_244) rfl (pc' := 246) rfl ?_
  by_cases hc10 : x20 = (0 : Int32)
  · rw [if_pos hc10] at hr
    refine o_ifNo X hx (hb hby at_246) (z_teq hc10).2 (pc' := 249) rfl ?_
    refine o_iload X hx (hb hby at_249) rfl (pc' := 251) rfl ?_
    by_cases hc11 : x19 = (0 : Int32)
    · rw [if_pos hc11] at hr
      refine o_ifYes X hx (hb hby at_251) (z_teq hc11).1 (pc' := 256) (by decide) (by decide) ?_
      exact b0_256 hx hZ hw hby hml hown hnm hret hlk a4 u_nodes_a4 u_jobs_a4 d0 d2 d4 d6 d8 d9 x10 x12 x14 x16 x19 x20 r X eT N hsz E_a4 F_a4_nodes F_a4_jobs g_a4 hp10 hp12 hp14 hr
    · rw [if_neg hc11] at hr
      refine o_ifNo X hx (hb hby at_251) (z_feq hc11).1 (pc' := 254) rfl ?_
      refine o_iconst X hx (hb hby at_254) (0 : Int32) rfl (pc' := 255) rfl ?_
      subst hr
      exact o_retN X hx hlk (t := .boolean) (by simp) hret (hb hby at_255) rfl ⟨rfl, N⟩ (by decide) (by decide)
  · rw [if_neg hc10] at hr
    refine o_ifYes X hx (hb hby at_246) (z_feq hc10).2 (pc' := 256) (by decide) (by decide) ?_
    exact b0_256 hx hZ hw hby hml hown hnm hret hlk a4 u_nodes_a4 u_jobs_a4 d0 d2 d4 d6 d8 d9 x10 x12 x14 x16 x19 x20 r X eT N hsz E_a4 F_a4_nodes F_a4_jobs g_a4 hp10 hp12 hp14 hr
def f0_218 (u_nodes_a4 : Int64) (u_jobs_a4 : Int64) (x10 : Int64) (x12 : Int64) (x14 : Int64) (x16 : Int64) (t0 : Int32) : Int32 := (if (f5_0 x10 x12 x14) = (1 : Int32) then (if t0 = (0 : Int32) then (0 : Int32) else (f0_244 u_nodes_a4 u_jobs_a4 x10 x12 x14 x16 t0 (f5_0 x10 x12 x14))) else (f0_244 u_nodes_a4 u_jobs_a4 x10 x12 x14 x16 t0 (f5_0 x10 x12 x14)))
set_option maxRecDepth 65536 in
set_option maxHeartbeats 40000000 in
theorem b0_218 {p : Program} {l : Launch} {e : Env} {s : State} {m : MethodId} {args : Array Value} {below : List Frame} {meth : Method} {c : Code} {Z : State} {a0 : Array Value} {n0 : Nat} (hx : p.tables.exec = Jvm.exec) (hZ : Z.Warmed39 s.vm) (hw : ∀ d ∈ tables_1, d.before a0 Z = true) (hby : c.code = code) (hml : c.maxLocals = 22) (hown : s.vm.findClass "com/example/gangway/gangway/policy/ShareLevelTakeWholePinLaw" = some m.cls) (hnm : meth.name = "law") (hret : meth.sig.returnType = some .boolean) (hlk : meth.locks = false)  {T : State} {locs : List Loc} {h : Heap} (a4 : Addr) (u_nodes_a4 : Int64) (u_jobs_a4 : Int64) (d0 : Int64) (d2 : Int64) (d4 : Int64) (d6 : Int64) (d8 : Int32) (d9 : Int32) (x10 : Int64) (x12 : Int64) (x14 : Int64) (x16 : Int64) (t0 : Int32) (r : Int32) (X : Stand p l e room_1 s m args below meth c T locs 1 2) (eT : T.heap = h) (N : Fr n0 locs) (hsz : n0 ≤ h.size) (E_a4 : Exa Z h a4 "com/example/gangway/gangway/policy/ShareLevel") (F_a4_nodes : Fld Z h a4 "com/example/gangway/gangway/policy/ShareLevel" "nodes" "J" (.long u_nodes_a4)) (F_a4_jobs : Fld Z h a4 "com/example/gangway/gangway/policy/ShareLevel" "jobs" "J" (.long u_jobs_a4)) (g_a4 : n0 ≤ a4) (hp10 : (0 ≤ x10.toInt)) (hp12 : (1 ≤ x12.toInt)) (hp14 : (0 ≤ x14.toInt)) (hr : f0_218 u_nodes_a4 u_jobs_a4 x10 x12 x14 x16 t0 = r) :
    OG p e below s (fun v h L => v = (some (.int r)) ∧ Fr n0 L) 16 128 T (mkF m 218 #[.val (.long d0), .second, .val (.long d2), .second, .val (.long d4), .second, .val (.long d6), .second, .val (.int d8), .val (.int d9), .val (.long x10), .second, .val (.long x12), .second, .val (.long x14), .second, .val (.long x16), .second, .val (.ref a4), .unset, .unset, .unset] [(.int t0)]) := by
  have hr : (if (f5_0 x10 x12 x14) = (1 : Int32) then (if t0 = (0 : Int32) then (0 : Int32) else (f0_244 u_nodes_a4 u_jobs_a4 x10 x12 x14 x16 t0 (f5_0 x10 x12 x14))) else (f0_244 u_nodes_a4 u_jobs_a4 x10 x12 x14 x16 t0 (f5_0 x10 x12 x14))) = r := hr
  refine o_istore X hx (hb hby at_218) #[.val (.long d0), .second, .val (.long d2), .second, .val (.long d4), .second, .val (.long d6), .second, .val (.int d8), .val (.int d9), .val (.long x10), .second, .val (.long x12), .second, .val (.long x14), .second, .val (.long x16), .second, .val (.ref a4), .val (.int t0), .unset, .unset] rfl (pc' := 220) rfl ?_
  refine o_lload X hx (hb hby at_220) rfl (pc' := 222) rfl ?_
  refine o_lload X hx (hb hby at_222) rfl (pc' := 224) rfl ?_
  refine o_lload X hx (hb hby at_224) rfl (pc' := 226) rfl ?_
  refine o_callS X hx hZ (argsL := [(.long x10), (.long x12), (.long x14)]) (rest := []) 0 hown eT (hw _ (List.mem_of_getElem? (i := 23) rfl)) (hw _ (List.mem_of_getElem? (i := 24) rfl)) (hw _ (List.mem_of_getElem? (i := 25) rfl)) (hw _ (List.mem_of_getElem? (i := 26) rfl)) (by decide) (rm5 l Z a0 hw [] x10 x12 x14 h n0 hsz (f5_0 x10 x12 x14) rfl) (by decide) (by decide) (by rw [hml]; rfl) (lenOf pd_2 rfl) rfl (Nat.le_refl _) (hb hby at_226) (pc' := 229) rfl (by decide) (by decide) ?_
  rintro _ T7 L7 X7 ⟨rfl, N7, e7⟩
  replace X7 : Stand p l e room_1 s m args below meth c T7 (locs ++ L7) 1 2 := X7
  have M7 := Fr.app N N7
  dsimp only [Option.toList, List.cons_append, List.nil_append]
  refine o_istore X7 hx (hb hby at_229) #[.val (.long d0), .second, .val (.long d2), .second, .val (.long d4), .second, .val (.long d6), .second, .val (.int d8), .val (.int d9), .val (.long x10), .second, .val (.long x12), .second, .val (.long x14), .second, .val (.long x16), .second, .val (.ref a4), .val (.int t0), .val (.int (f5_0 x10 x12 x14)), .unset] rfl (pc' := 231) rfl ?_
  refine o_iload X7 hx (hb hby at_231) rfl (pc' := 233) rfl ?_
  refine o_iconst X7 hx (hb hby at_233) (1 : Int32) rfl (pc' := 234) rfl ?_
  by_cases hc8 : (f5_0 x10 x12 x14) = (1 : Int32)
  · rw [if_pos hc8] at hr
    refine o_icmpNo X7 hx (hb hby at_234) (c_teq hc8).2 (pc' := 237) rfl ?_
    refine o_iload X7 hx (hb hby at_237) rfl (pc' := 239) rfl ?_
    by_cases hc9 : t0 = (0 : Int32)
    · rw [if_pos hc9] at hr
      refine o_ifNo X7 hx (hb hby at_239) (z_teq hc9).2 (pc' := 242) rfl ?_
      refine o_iconst X7 hx (hb hby at_242) (0 : Int32) rfl (pc' := 243) rfl ?_
      subst hr
      exact o_retN X7 hx hlk (t := .boolean) (by simp) hret (hb hby at_243) rfl ⟨rfl, M7⟩ (by decide) (by decide)
    · rw [if_neg hc9] at hr
      refine o_ifYes X7 hx (hb hby at_239) (z_feq hc9).2 (pc' := 244) (by decide) (by decide) ?_
      exact b0_244 hx hZ hw hby hml hown hnm hret hlk a4 u_nodes_a4 u_jobs_a4 d0 d2 d4 d6 d8 d9 x10 x12 x14 x16 t0 (f5_0 x10 x12 x14) r X7 e7 M7 hsz E_a4 F_a4_nodes F_a4_jobs g_a4 hp10 hp12 hp14 hr
  · rw [if_neg hc8] at hr
    refine o_icmpYes X7 hx (hb hby at_234) (c_feq hc8).2 (pc' := 244) (by decide) (by decide) ?_
    exact b0_244 hx hZ hw hby hml hown hnm hret hlk a4 u_nodes_a4 u_jobs_a4 d0 d2 d4 d6 d8 d9 x10 x12 x14 x16 t0 (f5_0 x10 x12 x14) r X7 e7 M7 hsz E_a4 F_a4_nodes F_a4_jobs g_a4 hp10 hp12 hp14 hr
def f0_196 (x10 : Int64) (x12 : Int64) (x14 : Int64) (x16 : Int64) : Int32 := (f0_218 ((f4_0 ((f2_0 x14 x12).1) ((f2_0 x14 x12).2) x10 x16).2.1) ((f4_0 ((f2_0 x14 x12).1) ((f2_0 x14 x12).2) x10 x16).2.2) x10 x12 x14 x16 ((f4_0 ((f2_0 x14 x12).1) ((f2_0 x14 x12).2) x10 x16).1))
set_option maxRecDepth 65536 in
set_option maxHeartbeats 40000000 in
theorem b0_196 {p : Program} {l : Launch} {e : Env} {s : State} {m : MethodId} {args : Array Value} {below : List Frame} {meth : Method} {c : Code} {Z : State} {a0 : Array Value} {n0 : Nat} (hx : p.tables.exec = Jvm.exec) (hZ : Z.Warmed39 s.vm) (hw : ∀ d ∈ tables_1, d.before a0 Z = true) (hby : c.code = code) (hml : c.maxLocals = 22) (hown : s.vm.findClass "com/example/gangway/gangway/policy/ShareLevelTakeWholePinLaw" = some m.cls) (hnm : meth.name = "law") (hret : meth.sig.returnType = some .boolean) (hlk : meth.locks = false)  {T : State} {locs : List Loc} {h : Heap} (d0 : Int64) (d2 : Int64) (d4 : Int64) (d6 : Int64) (d8 : Int32) (d9 : Int32) (x10 : Int64) (x12 : Int64) (x14 : Int64) (x16 : Int64) (r : Int32) (X : Stand p l e room_1 s m args below meth c T locs 0 0) (eT : T.heap = h) (N : Fr n0 locs) (hsz : n0 ≤ h.size) (hp10 : (0 ≤ x10.toInt)) (hp12 : (1 ≤ x12.toInt)) (hp14 : (0 ≤ x14.toInt)) (hr : f0_196 x10 x12 x14 x16 = r) :
    OG p e below s (fun v h L => v = (some (.int r)) ∧ Fr n0 L) 16 128 T (mkF m 196 #[.val (.long d0), .second, .val (.long d2), .second, .val (.long d4), .second, .val (.long d6), .second, .val (.int d8), .val (.int d9), .val (.long x10), .second, .val (.long x12), .second, .val (.long x14), .second, .val (.long x16), .second, .unset, .unset, .unset, .unset] []) := by
  have hr : (f0_218 ((f4_0 ((f2_0 x14 x12).1) ((f2_0 x14 x12).2) x10 x16).2.1) ((f4_0 ((f2_0 x14 x12).1) ((f2_0 x14 x12).2) x10 x16).2.2) x10 x12 x14 x16 ((f4_0 ((f2_0 x14 x12).1) ((f2_0 x14 x12).2) x10 x16).1)) = r := hr
  refine o_new X hx hZ hown eT (hw _ (List.mem_of_getElem? (i := 5) rfl)) (hw _ (List.mem_of_getElem? (i := 6) rfl)) (hw _ (List.mem_of_getElem? (i := 7) rfl)) (hb hby at_196) (pc' := 199) rfl (by decide) (by decide) ?_
  intro T4 h4 a4 X4 e4 q4 E4 A4 D4
  have g4 : n0 ≤ a4 := Nat.le_trans hsz (Nat.le_of_eq q4.symm)
  have z4 : n0 ≤ h4.size := Nat.le_trans hsz E4.1
  have F4_nodes : Fld Z h4 a4 "com/example/gangway/gangway/policy/ShareLevel" "nodes" "J" (.long (0 : Int64)) := D4 (Or.inl (hw _ (List.mem_of_getElem? (i := 15) rfl))) (ty := .long) (by decide)
  have F4_jobs : Fld Z h4 a4 "com/example/gangway/gangway/policy/ShareLevel" "jobs" "J" (.long (0 : Int64)) := D4 (Or.inl (hw _ (List.mem_of_getElem? (i := 17) rfl))) (ty := .long) (by decide)
  refine o_dup X4 hx (hb hby at_199) rfl (pc' := 200) rfl ?_
  refine o_lload X4 hx (hb hby at_200) rfl (pc' := 202) rfl ?_
  refine o_lload X4 hx (hb hby at_202) rfl (pc' := 204) rfl ?_
  refine o_special X4 hx hZ (argsL := [(.long x14), (.long x12)]) (rest := [(.ref a4)]) (a := a4) 1 rfl hown e4 (hw _ (List.mem_of_getElem? (i := 8) rfl)) (hw _ (List.mem_of_getElem? (i := 9) rfl)) (hw _ (List.mem_of_getElem? (i := 7) rfl)) (hw _ (List.mem_of_getElem? (i := 10) rfl)) (by decide) (rm2 l Z a0 hw [] a4 x14 x12 (.long (0 : Int64)) (.long (0 : Int64)) h4 n0 z4 A4 F4_nodes F4_jobs g4 (f2_0 x14 x12) rfl) (by decide) (by decide) (by rw [hml]; rfl) (lenOf pd_0 rfl) rfl (Nat.le_refl _) (hb hby at_204) (pc' := 207) rfl (by decide) (by decide) ?_
  rintro _ T5 L5 X5 ⟨rfl, N5, K5, B5, F5_nodes, F5_jobs⟩
  replace X5 : Stand p l e room_1 s m args below meth c T5 (locs ++ L5) 1 2 := X5
  have M5 := Fr.app N N5
  dsimp only [Option.toList, List.cons_append, List.nil_append]
  have A5_a4 := Exa.keep A4 K5
  have z5 : n0 ≤ T5.heap.size := Nat.le_trans z4 K5.1
  refine o_astore X5 hx (hb hby at_207) rfl #[.val (.long d0), .second, .val (.long d2), .second, .val (.long d4), .second, .val (.long d6), .second, .val (.int d8), .val (.int d9), .val (.long x10), .second, .val (.long x12), .second, .val (.long x14), .second, .val (.long x16), .second, .val (.ref a4), .unset, .unset, .unset] rfl (pc' := 209) rfl ?_
  refine o_aload X5 hx (hb hby at_209) rfl rfl (pc' := 211) rfl ?_
  refine o_lload X5 hx (hb hby at_211) rfl (pc' := 213) rfl ?_
  refine o_lload X5 hx (hb hby at_213) rfl (pc' := 215) rfl ?_
  refine o_virtual X5 hx hZ (argsL := [(.long x10), (.long x16)]) (rest := []) (a := a4) 0 hown (rfl : T5.heap = T5.heap) (hw _ (List.mem_of_getElem? (i := 18) rfl)) (hw _ (List.mem_of_getElem? (i := 19) rfl)) (hw _ (List.mem_of_getElem? (i := 21) rfl)) (hw _ (List.mem_of_getElem? (i := 20) rfl)) (hw _ (List.mem_of_getElem? (i := 7) rfl)) (hw _ (List.mem_of_getElem? (i := 22) rfl)) (by decide) B5 (rm4 l Z a0 hw [] a4 x10 x16 ((f2_0 x14 x12).1) ((f2_0 x14 x12).2) T5.heap n0 z5 B5 F5_nodes F5_jobs g4 (own_ne hp12) (f4_0 ((f2_0 x14 x12).1) ((f2_0 x14 x12).2) x10 x16) rfl) (by decide) (by decide) (by rw [hml]; rfl) (lenOf pd_1 rfl) rfl (Nat.le_refl _) (hb hby at_215) (pc' := 218) rfl (by decide) (by decide) ?_
  rintro _ T6 L6 X6 ⟨rfl, N6, K6, B6, F6_nodes, F6_jobs⟩
  replace X6 : Stand p l e room_1 s m args below meth c T6 ((locs ++ L5) ++ L6) 1 2 := X6
  have M6 := Fr.app M5 N6
  dsimp only [Option.toList, List.cons_append, List.nil_append]
  have A6_a4 := Exa.keep B5 K6
  have z6 : n0 ≤ T6.heap.size := Nat.le_trans z5 K6.1
  exact b0_218 hx hZ hw hby hml hown hnm hret hlk a4 ((f4_0 ((f2_0 x14 x12).1) ((f2_0 x14 x12).2) x10 x16).2.1) ((f4_0 ((f2_0 x14 x12).1) ((f2_0 x14 x12).2) x10 x16).2.2) d0 d2 d4 d6 d8 d9 x10 x12 x14 x16 ((f4_0 ((f2_0 x14 x12).1) ((f2_0 x14 x12).2) x10 x16).1) r X6 (rfl : T6.heap = T6.heap) M6 z6 B6 F6_nodes F6_jobs g4 hp10 hp12 hp14 hr
def f0_172 (x6 : Int64) (x8 : Int32) (x10 : Int64) (x12 : Int64) (x14 : Int64) : Int32 := (if (x8 &&& (128 : Int32)) = (0 : Int32) then (f0_196 x10 x12 x14 ((x6 &&& (9223372036854775807 : Int64)) % x12)) else (f0_196 x10 x12 x14 x12))
set_option maxRecDepth 65536 in
set_option maxHeartbeats 40000000 in
theorem b0_172 {p : Program} {l : Launch} {e : Env} {s : State} {m : MethodId} {args : Array Value} {below : List Frame} {meth : Method} {c : Code} {Z : State} {a0 : Array Value} {n0 : Nat} (hx : p.tables.exec = Jvm.exec) (hZ : Z.Warmed39 s.vm) (hw : ∀ d ∈ tables_1, d.before a0 Z = true) (hby : c.code = code) (hml : c.maxLocals = 22) (hown : s.vm.findClass "com/example/gangway/gangway/policy/ShareLevelTakeWholePinLaw" = some m.cls) (hnm : meth.name = "law") (hret : meth.sig.returnType = some .boolean) (hlk : meth.locks = false)  {T : State} {locs : List Loc} {h : Heap} (d0 : Int64) (d2 : Int64) (d4 : Int64) (x6 : Int64) (x8 : Int32) (d9 : Int32) (x10 : Int64) (x12 : Int64) (x14 : Int64) (r : Int32) (X : Stand p l e room_1 s m args below meth c T locs 0 0) (eT : T.heap = h) (N : Fr n0 locs) (hsz : n0 ≤ h.size) (hp10 : (0 ≤ x10.toInt)) (hp12 : (1 ≤ x12.toInt)) (hp14 : (0 ≤ x14.toInt)) (hr : f0_172 x6 x8 x10 x12 x14 = r) :
    OG p e below s (fun v h L => v = (some (.int r)) ∧ Fr n0 L) 16 128 T (mkF m 172 #[.val (.long d0), .second, .val (.long d2), .second, .val (.long d4), .second, .val (.long x6), .second, .val (.int x8), .val (.int d9), .val (.long x10), .second, .val (.long x12), .second, .val (.long x14), .second, .unset, .unset, .unset, .unset, .unset, .unset] []) := by
  have hr : (if (x8 &&& (128 : Int32)) = (0 : Int32) then (f0_196 x10 x12 x14 ((x6 &&& (9223372036854775807 : Int64)) % x12)) else (f0_196 x10 x12 x14 x12)) = r := hr
  refine o_lload X hx (hb hby at_172) rfl (pc' := 174) rfl ?_
  refine o_ldc2Long X hx hZ hown (hb hby at_174) (hw _ (List.mem_of_getElem? (i := 0) rfl)) (pc' := 177) rfl ?_
  refine o_land X hx (hb hby at_177) (pc' := 178) rfl ?_
  refine o_lload X hx (hb hby at_178) rfl (pc' := 180) rfl ?_
  refine o_lrem X hx (hb hby at_180) (own_ne hp12) (pc' := 181) rfl ?_
  refine o_lstore X hx (hb hby at_181) #[.val (.long d0), .second, .val (.long d2), .second, .val (.long d4), .second, .val (.long x6), .second, .val (.int x8), .val (.int d9), .val (.long x10), .second, .val (.long x12), .second, .val (.long x14), .second, .val (.long ((x6 &&& (9223372036854775807 : Int64)) % x12)), .second, .unset, .unset, .unset, .unset] rfl (pc' := 183) rfl ?_
  refine o_iload X hx (hb hby at_183) rfl (pc' := 185) rfl ?_
  refine o_sipush X hx (hb hby at_185) (128 : Int32) rfl (pc' := 188) rfl ?_
  refine o_iand X hx (hb hby at_188) (pc' := 189) rfl ?_
  by_cases hc3 : (x8 &&& (128 : Int32)) = (0 : Int32)
  · rw [if_pos hc3] at hr
    refine o_ifYes X hx (hb hby at_189) (z_teq hc3).1 (pc' := 196) (by decide) (by decide) ?_
    exact b0_196 hx hZ hw hby hml hown hnm hret hlk d0 d2 d4 x6 x8 d9 x10 x12 x14 ((x6 &&& (9223372036854775807 : Int64)) % x12) r X eT N hsz hp10 hp12 hp14 hr
  · rw [if_neg hc3] at hr
    refine o_ifNo X hx (hb hby at_189) (z_feq hc3).1 (pc' := 192) rfl ?_
    refine o_lload X hx (hb hby at_192) rfl (pc' := 194) rfl ?_
    refine o_lstore X hx (hb hby at_194) #[.val (.long d0), .second, .val (.long d2), .second, .val (.long d4), .second, .val (.long x6), .second, .val (.int x8), .val (.int d9), .val (.long x10), .second, .val (.long x12), .second, .val (.long x14), .second, .val (.long x12), .second, .unset, .unset, .unset, .unset] rfl (pc' := 196) rfl ?_
    exact b0_196 hx hZ hw hby hml hown hnm hret hlk d0 d2 d4 x6 x8 d9 x10 x12 x14 x12 r X eT N hsz hp10 hp12 hp14 hr
def f0_256a (u_nodes_a26 : Int64) (u_jobs_a26 : Int64) (x10 : Int64) (x12 : Int64) (x14 : Int64) (x16 : Int64) (x19 : Int32) : Int32 := (if x19 = (0 : Int32) then (if (f6_0 u_nodes_a26) = x14 then (if (f7_0 u_jobs_a26) = x12 then (1 : Int32) else (0 : Int32)) else (0 : Int32)) else (if (f6_0 u_nodes_a26) = (x14 - (x10 * x16)) then (if (f7_0 u_jobs_a26) = (x12 - x16) then (1 : Int32) else (0 : Int32)) else (0 : Int32)))
set_option maxRecDepth 65536 in
set_option maxHeartbeats 40000000 in
theorem b0_256a {p : Program} {l : Launch} {e : Env} {s : State} {m : MethodId} {args : Array Value} {below : List Frame} {meth : Method} {c : Code} {Z : State} {a0 : Array Value} {n0 : Nat} (hx : p.tables.exec = Jvm.exec) (hZ : Z.Warmed39 s.vm) (hw : ∀ d ∈ tables_1, d.before a0 Z = true) (hby : c.code = code) (hml : c.maxLocals = 22) (hown : s.vm.findClass "com/example/gangway/gangway/policy/ShareLevelTakeWholePinLaw" = some m.cls) (hnm : meth.name = "law") (hret : meth.sig.returnType = some .boolean) (hlk : meth.locks = false)  {T : State} {locs : List Loc} {h : Heap} (a26 : Addr) (u_nodes_a26 : Int64) (u_jobs_a26 : Int64) (d0 : Int64) (d2 : Int64) (d4 : Int64) (d6 : Int64) (d8 : Int32) (d9 : Int32) (x10 : Int64) (x12 : Int64) (x14 : Int64) (x16 : Int64) (x19 : Int32) (d20 : Int32) (r : Int32) (X : Stand p l e room_1 s m args below meth c T locs 1 2) (eT : T.heap = h) (N : Fr n0 locs) (hsz : n0 ≤ h.size) (E_a26 : Exa Z h a26 "com/example/gangway/gangway/policy/ShareLevel") (F_a26_nodes : Fld Z h a26 "com/example/gangway/gangway/policy/ShareLevel" "nodes" "J" (.long u_nodes_a26)) (F_a26_jobs : Fld Z h a26 "com/example/gangway/gangway/policy/ShareLevel" "jobs" "J" (.long u_jobs_a26)) (g_a26 : n0 ≤ a26) (hp10 : (0 ≤ x10.toInt)) (hp12 : (1 ≤ x12.toInt)) (hp14 : (0 ≤ x14.toInt)) (hr : f0_256a u_nodes_a26 u_jobs_a26 x10 x12 x14 x16 x19 = r) :
    OG p e below s (fun v h L => v = (some (.int r)) ∧ Fr n0 L) 16 128 T (mkF m 256 #[.val (.long d0), .second, .val (.long d2), .second, .val (.long d4), .second, .val (.long d6), .second, .val (.int d8), .val (.int d9), .val (.long x10), .second, .val (.long x12), .second, .val (.long x14), .second, .val (.long x16), .second, .val (.ref a26), .val (.int x19), .val (.int d20), .unset] []) := by
  have hr : (if x19 = (0 : Int32) then (if (f6_0 u_nodes_a26) = x14 then (if (f7_0 u_jobs_a26) = x12 then (1 : Int32) else (0 : Int32)) else (0 : Int32)) else (if (f6_0 u_nodes_a26) = (x14 - (x10 * x16)) then (if (f7_0 u_jobs_a26) = (x12 - x16) then (1 : Int32) else (0 : Int32)) else (0 : Int32))) = r := hr
  refine o_iload X hx (hb hby at_256) rfl (pc' := 258) rfl ?_
  by_cases hc34 : x19 = (0 : Int32)
  · rw [if_pos hc34] at hr
    refine o_ifYes X hx (hb hby at_258) (z_teq hc34).1 (pc' := 298) (by decide) (by decide) ?_
    refine o_aload X hx (hb hby at_298) rfl rfl (pc' := 300) rfl ?_
    refine o_virtual X hx hZ (argsL := []) (rest := []) (a := a26) 0 hown eT (hw _ (List.mem_of_getElem? (i := 27) rfl)) (hw _ (List.mem_of_getElem? (i := 28) rfl)) (hw _ (List.mem_of_getElem? (i := 30) rfl)) (hw _ (List.mem_of_getElem? (i := 29) rfl)) (hw _ (List.mem_of_getElem? (i := 7) rfl)) (hw _ (List.mem_of_getElem? (i := 31) rfl)) (by decide) E_a26 (rm6 l Z a0 hw [] a26 u_nodes_a26 h n0 hsz E_a26 F_a26_nodes (f6_0 u_nodes_a26) rfl) (by decide) (by decide) (by rw [hml]; rfl) (lenOf pd_3 rfl) rfl (Nat.le_refl _) (hb hby at_300) (pc' := 303) rfl (by decide) (by decide) ?_
    rintro _ T35 L35 X35 ⟨rfl, N35, e35⟩
    replace X35 : Stand p l e room_1 s m args below meth c T35 (locs ++ L35) 1 2 := X35
    have M35 := Fr.app N N35
    dsimp only [Option.toList, List.cons_append, List.nil_append]
    refine o_lload X35 hx (hb hby at_303) rfl (pc' := 305) rfl ?_
    refine o_lcmp X35 hx (hb hby at_305) (pc' := 306) rfl ?_
    by_cases hc36 : (f6_0 u_nodes_a26) = x14
    · rw [if_pos hc36] at hr
      refine o_ifNo X35 hx (hb hby at_306) (l_teq hc36).2 (pc' := 309) rfl ?_
      refine o_aload X35 hx (hb hby at_309) rfl rfl (pc' := 311) rfl ?_
      refine o_virtual X35 hx hZ (argsL := []) (rest := []) (a := a26) 0 hown e35 (hw _ (List.mem_of_getElem? (i := 32) rfl)) (hw _ (List.mem_of_getElem? (i := 33) rfl)) (hw _ (List.mem_of_getElem? (i := 35) rfl)) (hw _ (List.mem_of_getElem? (i := 34) rfl)) (hw _ (List.mem_of_getElem? (i := 7) rfl)) (hw _ (List.mem_of_getElem? (i := 36) rfl)) (by decide) E_a26 (rm7 l Z a0 hw [] a26 u_jobs_a26 h n0 hsz E_a26 F_a26_jobs (f7_0 u_jobs_a26) rfl) (by decide) (by decide) (by rw [hml]; rfl) (lenOf pd_3 rfl) rfl (Nat.le_refl _) (hb hby at_311) (pc' := 314) rfl (by decide) (by decide) ?_
      rintro _ T37 L37 X37 ⟨rfl, N37, e37⟩
      replace X37 : Stand p l e room_1 s m args below meth c T37 ((locs ++ L35) ++ L37) 1 2 := X37
      have M37 := Fr.app M35 N37
      dsimp only [Option.toList, List.cons_append, List.nil_append]
      refine o_lload X37 hx (hb hby at_314) rfl (pc' := 316) rfl ?_
      refine o_lcmp X37 hx (hb hby at_316) (pc' := 317) rfl ?_
      by_cases hc38 : (f7_0 u_jobs_a26) = x12
      · rw [if_pos hc38] at hr
        refine o_ifNo X37 hx (hb hby at_317) (l_teq hc38).2 (pc' := 320) rfl ?_
        refine o_iconst X37 hx (hb hby at_320) (1 : Int32) rfl (pc' := 321) rfl ?_
        refine o_goto X37 hx (hb hby at_321) (pc' := 325) (by decide) (by decide) ?_
        subst hr
        exact o_retN X37 hx hlk (t := .boolean) (by simp) hret (hb hby at_325) rfl ⟨rfl, M37⟩ (by decide) (by decide)
      · rw [if_neg hc38] at hr
        refine o_ifYes X37 hx (hb hby at_317) (l_feq hc38).2 (pc' := 324) (by decide) (by decide) ?_
        refine o_iconst X37 hx (hb hby at_324) (0 : Int32) rfl (pc' := 325) rfl ?_
        subst hr
        exact o_retN X37 hx hlk (t := .boolean) (by simp) hret (hb hby at_325) rfl ⟨rfl, M37⟩ (by decide) (by decide)
    · rw [if_neg hc36] at hr
      refine o_ifYes X35 hx (hb hby at_306) (l_feq hc36).2 (pc' := 324) (by decide) (by decide) ?_
      refine o_iconst X35 hx (hb hby at_324) (0 : Int32) rfl (pc' := 325) rfl ?_
      subst hr
      exact o_retN X35 hx hlk (t := .boolean) (by simp) hret (hb hby at_325) rfl ⟨rfl, M35⟩ (by decide) (by decide)
  · rw [if_neg hc34] at hr
    refine o_ifNo X hx (hb hby at_258) (z_feq hc34).1 (pc' := 261) rfl ?_
    refine o_aload X hx (hb hby at_261) rfl rfl (pc' := 263) rfl ?_
    refine o_virtual X hx hZ (argsL := []) (rest := []) (a := a26) 0 hown eT (hw _ (List.mem_of_getElem? (i := 27) rfl)) (hw _ (List.mem_of_getElem? (i := 28) rfl)) (hw _ (List.mem_of_getElem? (i := 30) rfl)) (hw _ (List.mem_of_getElem? (i := 29) rfl)) (hw _ (List.mem_of_getElem? (i := 7) rfl)) (hw _ (List.mem_of_getElem? (i := 31) rfl)) (by decide) E_a26 (rm6 l Z a0 hw [] a26 u_nodes_a26 h n0 hsz E_a26 F_a26_nodes (f6_0 u_nodes_a26) rfl) (by decide) (by decide) (by rw [hml]; rfl) (lenOf pd_3 rfl) rfl (Nat.le_refl _) (hb hby at_263) (pc' := 266) rfl (by decide) (by decide) ?_
    rintro _ T39 L39 X39 ⟨rfl, N39, e39⟩
    replace X39 : Stand p l e room_1 s m args below meth c T39 (locs ++ L39) 1 2 := X39
    have M39 := Fr.app N N39
    dsimp only [Option.toList, List.cons_append, List.nil_append]
    refine o_lload X39 hx (hb hby at_266) rfl (pc' := 268) rfl ?_
    refine o_lload X39 hx (hb hby at_268) rfl (pc' := 270) rfl ?_
    refine o_lload X39 hx (hb hby at_270) rfl (pc' := 272) rfl ?_
    refine o_lmul X39 hx (hb hby at_272) (pc' := 273) rfl ?_
    refine o_lsub X39 hx (hb hby at_273) (pc' := 274) rfl ?_
    refine o_lcmp X39 hx (hb hby at_274) (pc' := 275) rfl ?_
    by_cases hc40 : (f6_0 u_nodes_a26) = (x14 - (x10 * x16))
    · rw [if_pos hc40] at hr
      refine o_ifNo X39 hx (hb hby at_275) (l_teq hc40).2 (pc' := 278) rfl ?_
      refine o_aload X39 hx (hb hby at_278) rfl rfl (pc' := 280) rfl ?_
      refine o_virtual X39 hx hZ (argsL := []) (rest := []) (a := a26) 0 hown e39 (hw _ (List.mem_of_getElem? (i := 32) rfl)) (hw _ (List.mem_of_getElem? (i := 33) rfl)) (hw _ (List.mem_of_getElem? (i := 35) rfl)) (hw _ (List.mem_of_getElem? (i := 34) rfl)) (hw _ (List.mem_of_getElem? (i := 7) rfl)) (hw _ (List.mem_of_getElem? (i := 36) rfl)) (by decide) E_a26 (rm7 l Z a0 hw [] a26 u_jobs_a26 h n0 hsz E_a26 F_a26_jobs (f7_0 u_jobs_a26) rfl) (by decide) (by decide) (by rw [hml]; rfl) (lenOf pd_3 rfl) rfl (Nat.le_refl _) (hb hby at_280) (pc' := 283) rfl (by decide) (by decide) ?_
      rintro _ T41 L41 X41 ⟨rfl, N41, e41⟩
      replace X41 : Stand p l e room_1 s m args below meth c T41 ((locs ++ L39) ++ L41) 1 2 := X41
      have M41 := Fr.app M39 N41
      dsimp only [Option.toList, List.cons_append, List.nil_append]
      refine o_lload X41 hx (hb hby at_283) rfl (pc' := 285) rfl ?_
      refine o_lload X41 hx (hb hby at_285) rfl (pc' := 287) rfl ?_
      refine o_lsub X41 hx (hb hby at_287) (pc' := 288) rfl ?_
      refine o_lcmp X41 hx (hb hby at_288) (pc' := 289) rfl ?_
      by_cases hc42 : (f7_0 u_jobs_a26) = (x12 - x16)
      · rw [if_pos hc42] at hr
        refine o_ifNo X41 hx (hb hby at_289) (l_teq hc42).2 (pc' := 292) rfl ?_
        refine o_iconst X41 hx (hb hby at_292) (1 : Int32) rfl (pc' := 293) rfl ?_
        refine o_goto X41 hx (hb hby at_293) (pc' := 297) (by decide) (by decide) ?_
        subst hr
        exact o_retN X41 hx hlk (t := .boolean) (by simp) hret (hb hby at_297) rfl ⟨rfl, M41⟩ (by decide) (by decide)
      · rw [if_neg hc42] at hr
        refine o_ifYes X41 hx (hb hby at_289) (l_feq hc42).2 (pc' := 296) (by decide) (by decide) ?_
        refine o_iconst X41 hx (hb hby at_296) (0 : Int32) rfl (pc' := 297) rfl ?_
        subst hr
        exact o_retN X41 hx hlk (t := .boolean) (by simp) hret (hb hby at_297) rfl ⟨rfl, M41⟩ (by decide) (by decide)
    · rw [if_neg hc40] at hr
      refine o_ifYes X39 hx (hb hby at_275) (l_feq hc40).2 (pc' := 296) (by decide) (by decide) ?_
      refine o_iconst X39 hx (hb hby at_296) (0 : Int32) rfl (pc' := 297) rfl ?_
      subst hr
      exact o_retN X39 hx hlk (t := .boolean) (by simp) hret (hb hby at_297) rfl ⟨rfl, M39⟩ (by decide) (by decide)
def f0_244a (u_nodes_a26 : Int64) (u_jobs_a26 : Int64) (x10 : Int64) (x12 : Int64) (x14 : Int64) (x16 : Int64) (x19 : Int32) (x20 : Int32) : Int32 := (if x20 = (0 : Int32) then (if x19 = (0 : Int32) then (f0_256a u_nodes_a26 u_jobs_a26 x10 x12 x14 x16 x19) else (0 : Int32)) else (f0_256a u_nodes_a26 u_jobs_a26 x10 x12 x14 x16 x19))
set_option maxRecDepth 65536 in
set_option maxHeartbeats 40000000 in
theorem b0_244a {p : Program} {l : Launch} {e : Env} {s : State} {m : MethodId} {args : Array Value} {below : List Frame} {meth : Method} {c : Code} {Z : State} {a0 : Array Value} {n0 : Nat} (hx : p.tables.exec = Jvm.exec) (hZ : Z.Warmed39 s.vm) (hw : ∀ d ∈ tables_1, d.before a0 Z = true) (hby : c.code = code) (hml : c.maxLocals = 22) (hown : s.vm.findClass "com/example/gangway/gangway/policy/ShareLevelTakeWholePinLaw" = some m.cls) (hnm : meth.name = "law") (hret : meth.sig.returnType = some .boolean) (hlk : meth.locks = false)  {T : State} {locs : List Loc} {h : Heap} (a26 : Addr) (u_nodes_a26 : Int64) (u_jobs_a26 : Int64) (d0 : Int64) (d2 : Int64) (d4 : Int64) (d6 : Int64) (d8 : Int32) (d9 : Int32) (x10 : Int64) (x12 : Int64) (x14 : Int64) (x16 : Int64) (x19 : Int32) (x20 : Int32) (r : Int32) (X : Stand p l e room_1 s m args below meth c T locs 1 2) (eT : T.heap = h) (N : Fr n0 locs) (hsz : n0 ≤ h.size) (E_a26 : Exa Z h a26 "com/example/gangway/gangway/policy/ShareLevel") (F_a26_nodes : Fld Z h a26 "com/example/gangway/gangway/policy/ShareLevel" "nodes" "J" (.long u_nodes_a26)) (F_a26_jobs : Fld Z h a26 "com/example/gangway/gangway/policy/ShareLevel" "jobs" "J" (.long u_jobs_a26)) (g_a26 : n0 ≤ a26) (hp10 : (0 ≤ x10.toInt)) (hp12 : (1 ≤ x12.toInt)) (hp14 : (0 ≤ x14.toInt)) (hr : f0_244a u_nodes_a26 u_jobs_a26 x10 x12 x14 x16 x19 x20 = r) :
    OG p e below s (fun v h L => v = (some (.int r)) ∧ Fr n0 L) 16 128 T (mkF m 244 #[.val (.long d0), .second, .val (.long d2), .second, .val (.long d4), .second, .val (.long d6), .second, .val (.int d8), .val (.int d9), .val (.long x10), .second, .val (.long x12), .second, .val (.long x14), .second, .val (.long x16), .second, .val (.ref a26), .val (.int x19), .val (.int x20), .unset] []) := by
  have hr : (if x20 = (0 : Int32) then (if x19 = (0 : Int32) then (f0_256a u_nodes_a26 u_jobs_a26 x10 x12 x14 x16 x19) else (0 : Int32)) else (f0_256a u_nodes_a26 u_jobs_a26 x10 x12 x14 x16 x19)) = r := hr
  refine o_iload X hx (hb hby at_244) rfl (pc' := 246) rfl ?_
  by_cases hc32 : x20 = (0 : Int32)
  · rw [if_pos hc32] at hr
    refine o_ifNo X hx (hb hby at_246) (z_teq hc32).2 (pc' := 249) rfl ?_
    refine o_iload X hx (hb hby at_249) rfl (pc' := 251) rfl ?_
    by_cases hc33 : x19 = (0 : Int32)
    · rw [if_pos hc33] at hr
      refine o_ifYes X hx (hb hby at_251) (z_teq hc33).1 (pc' := 256) (by decide) (by decide) ?_
      exact b0_256a hx hZ hw hby hml hown hnm hret hlk a26 u_nodes_a26 u_jobs_a26 d0 d2 d4 d6 d8 d9 x10 x12 x14 x16 x19 x20 r X eT N hsz E_a26 F_a26_nodes F_a26_jobs g_a26 hp10 hp12 hp14 hr
    · rw [if_neg hc33] at hr
      refine o_ifNo X hx (hb hby at_251) (z_feq hc33).1 (pc' := 254) rfl ?_
      refine o_iconst X hx (hb hby at_254) (0 : Int32) rfl (pc' := 255) rfl ?_
      subst hr
      exact o_retN X hx hlk (t := .boolean) (by simp) hret (hb hby at_255) rfl ⟨rfl, N⟩ (by decide) (by decide)
  · rw [if_neg hc32] at hr
    refine o_ifYes X hx (hb hby at_246) (z_feq hc32).2 (pc' := 256) (by decide) (by decide) ?_
    exact b0_256a hx hZ hw hby hml hown hnm hret hlk a26 u_nodes_a26 u_jobs_a26 d0 d2 d4 d6 d8 d9 x10 x12 x14 x16 x19 x20 r X eT N hsz E_a26 F_a26_nodes F_a26_jobs g_a26 hp10 hp12 hp14 hr
def f0_218a (u_nodes_a26 : Int64) (u_jobs_a26 : Int64) (x10 : Int64) (x12 : Int64) (x14 : Int64) (x16 : Int64) (t0 : Int32) : Int32 := (if (f5_0 x10 x12 x14) = (1 : Int32) then (if t0 = (0 : Int32) then (0 : Int32) else (f0_244a u_nodes_a26 u_jobs_a26 x10 x12 x14 x16 t0 (f5_0 x10 x12 x14))) else (f0_244a u_nodes_a26 u_jobs_a26 x10 x12 x14 x16 t0 (f5_0 x10 x12 x14)))
set_option maxRecDepth 65536 in
set_option maxHeartbeats 40000000 in
theorem b0_218a {p : Program} {l : Launch} {e : Env} {s : State} {m : MethodId} {args : Array Value} {below : List Frame} {meth : Method} {c : Code} {Z : State} {a0 : Array Value} {n0 : Nat} (hx : p.tables.exec = Jvm.exec) (hZ : Z.Warmed39 s.vm) (hw : ∀ d ∈ tables_1, d.before a0 Z = true) (hby : c.code = code) (hml : c.maxLocals = 22) (hown : s.vm.findClass "com/example/gangway/gangway/policy/ShareLevelTakeWholePinLaw" = some m.cls) (hnm : meth.name = "law") (hret : meth.sig.returnType = some .boolean) (hlk : meth.locks = false)  {T : State} {locs : List Loc} {h : Heap} (a26 : Addr) (u_nodes_a26 : Int64) (u_jobs_a26 : Int64) (d0 : Int64) (d2 : Int64) (d4 : Int64) (d6 : Int64) (d8 : Int32) (d9 : Int32) (x10 : Int64) (x12 : Int64) (x14 : Int64) (x16 : Int64) (d20 : Int64) (t0 : Int32) (r : Int32) (X : Stand p l e room_1 s m args below meth c T locs 1 2) (eT : T.heap = h) (N : Fr n0 locs) (hsz : n0 ≤ h.size) (E_a26 : Exa Z h a26 "com/example/gangway/gangway/policy/ShareLevel") (F_a26_nodes : Fld Z h a26 "com/example/gangway/gangway/policy/ShareLevel" "nodes" "J" (.long u_nodes_a26)) (F_a26_jobs : Fld Z h a26 "com/example/gangway/gangway/policy/ShareLevel" "jobs" "J" (.long u_jobs_a26)) (g_a26 : n0 ≤ a26) (hp10 : (0 ≤ x10.toInt)) (hp12 : (1 ≤ x12.toInt)) (hp14 : (0 ≤ x14.toInt)) (hr : f0_218a u_nodes_a26 u_jobs_a26 x10 x12 x14 x16 t0 = r) :
    OG p e below s (fun v h L => v = (some (.int r)) ∧ Fr n0 L) 16 128 T (mkF m 218 #[.val (.long d0), .second, .val (.long d2), .second, .val (.long d4), .second, .val (.long d6), .second, .val (.int d8), .val (.int d9), .val (.long x10), .second, .val (.long x12), .second, .val (.long x14), .second, .val (.long x16), .second, .val (.ref a26), .unset, .val (.long d20), .second] [(.int t0)]) := by
  have hr : (if (f5_0 x10 x12 x14) = (1 : Int32) then (if t0 = (0 : Int32) then (0 : Int32) else (f0_244a u_nodes_a26 u_jobs_a26 x10 x12 x14 x16 t0 (f5_0 x10 x12 x14))) else (f0_244a u_nodes_a26 u_jobs_a26 x10 x12 x14 x16 t0 (f5_0 x10 x12 x14))) = r := hr
  refine o_istore X hx (hb hby at_218) #[.val (.long d0), .second, .val (.long d2), .second, .val (.long d4), .second, .val (.long d6), .second, .val (.int d8), .val (.int d9), .val (.long x10), .second, .val (.long x12), .second, .val (.long x14), .second, .val (.long x16), .second, .val (.ref a26), .val (.int t0), .val (.long d20), .second] rfl (pc' := 220) rfl ?_
  refine o_lload X hx (hb hby at_220) rfl (pc' := 222) rfl ?_
  refine o_lload X hx (hb hby at_222) rfl (pc' := 224) rfl ?_
  refine o_lload X hx (hb hby at_224) rfl (pc' := 226) rfl ?_
  refine o_callS X hx hZ (argsL := [(.long x10), (.long x12), (.long x14)]) (rest := []) 0 hown eT (hw _ (List.mem_of_getElem? (i := 23) rfl)) (hw _ (List.mem_of_getElem? (i := 24) rfl)) (hw _ (List.mem_of_getElem? (i := 25) rfl)) (hw _ (List.mem_of_getElem? (i := 26) rfl)) (by decide) (rm5 l Z a0 hw [] x10 x12 x14 h n0 hsz (f5_0 x10 x12 x14) rfl) (by decide) (by decide) (by rw [hml]; rfl) (lenOf pd_2 rfl) rfl (Nat.le_refl _) (hb hby at_226) (pc' := 229) rfl (by decide) (by decide) ?_
  rintro _ T29 L29 X29 ⟨rfl, N29, e29⟩
  replace X29 : Stand p l e room_1 s m args below meth c T29 (locs ++ L29) 1 2 := X29
  have M29 := Fr.app N N29
  dsimp only [Option.toList, List.cons_append, List.nil_append]
  refine o_istore X29 hx (hb hby at_229) #[.val (.long d0), .second, .val (.long d2), .second, .val (.long d4), .second, .val (.long d6), .second, .val (.int d8), .val (.int d9), .val (.long x10), .second, .val (.long x12), .second, .val (.long x14), .second, .val (.long x16), .second, .val (.ref a26), .val (.int t0), .val (.int (f5_0 x10 x12 x14)), .unset] rfl (pc' := 231) rfl ?_
  refine o_iload X29 hx (hb hby at_231) rfl (pc' := 233) rfl ?_
  refine o_iconst X29 hx (hb hby at_233) (1 : Int32) rfl (pc' := 234) rfl ?_
  by_cases hc30 : (f5_0 x10 x12 x14) = (1 : Int32)
  · rw [if_pos hc30] at hr
    refine o_icmpNo X29 hx (hb hby at_234) (c_teq hc30).2 (pc' := 237) rfl ?_
    refine o_iload X29 hx (hb hby at_237) rfl (pc' := 239) rfl ?_
    by_cases hc31 : t0 = (0 : Int32)
    · rw [if_pos hc31] at hr
      refine o_ifNo X29 hx (hb hby at_239) (z_teq hc31).2 (pc' := 242) rfl ?_
      refine o_iconst X29 hx (hb hby at_242) (0 : Int32) rfl (pc' := 243) rfl ?_
      subst hr
      exact o_retN X29 hx hlk (t := .boolean) (by simp) hret (hb hby at_243) rfl ⟨rfl, M29⟩ (by decide) (by decide)
    · rw [if_neg hc31] at hr
      refine o_ifYes X29 hx (hb hby at_239) (z_feq hc31).2 (pc' := 244) (by decide) (by decide) ?_
      exact b0_244a hx hZ hw hby hml hown hnm hret hlk a26 u_nodes_a26 u_jobs_a26 d0 d2 d4 d6 d8 d9 x10 x12 x14 x16 t0 (f5_0 x10 x12 x14) r X29 e29 M29 hsz E_a26 F_a26_nodes F_a26_jobs g_a26 hp10 hp12 hp14 hr
  · rw [if_neg hc30] at hr
    refine o_icmpYes X29 hx (hb hby at_234) (c_feq hc30).2 (pc' := 244) (by decide) (by decide) ?_
    exact b0_244a hx hZ hw hby hml hown hnm hret hlk a26 u_nodes_a26 u_jobs_a26 d0 d2 d4 d6 d8 d9 x10 x12 x14 x16 t0 (f5_0 x10 x12 x14) r X29 e29 M29 hsz E_a26 F_a26_nodes F_a26_jobs g_a26 hp10 hp12 hp14 hr
def f0_196a (x10 : Int64) (x12 : Int64) (x14 : Int64) (x16 : Int64) : Int32 := (f0_218a ((f4_0 ((f2_0 x14 x12).1) ((f2_0 x14 x12).2) x10 x16).2.1) ((f4_0 ((f2_0 x14 x12).1) ((f2_0 x14 x12).2) x10 x16).2.2) x10 x12 x14 x16 ((f4_0 ((f2_0 x14 x12).1) ((f2_0 x14 x12).2) x10 x16).1))
set_option maxRecDepth 65536 in
set_option maxHeartbeats 40000000 in
theorem b0_196a {p : Program} {l : Launch} {e : Env} {s : State} {m : MethodId} {args : Array Value} {below : List Frame} {meth : Method} {c : Code} {Z : State} {a0 : Array Value} {n0 : Nat} (hx : p.tables.exec = Jvm.exec) (hZ : Z.Warmed39 s.vm) (hw : ∀ d ∈ tables_1, d.before a0 Z = true) (hby : c.code = code) (hml : c.maxLocals = 22) (hown : s.vm.findClass "com/example/gangway/gangway/policy/ShareLevelTakeWholePinLaw" = some m.cls) (hnm : meth.name = "law") (hret : meth.sig.returnType = some .boolean) (hlk : meth.locks = false)  {T : State} {locs : List Loc} {h : Heap} (d0 : Int64) (d2 : Int64) (d4 : Int64) (d6 : Int64) (d8 : Int32) (d9 : Int32) (x10 : Int64) (x12 : Int64) (x14 : Int64) (x16 : Int64) (d18 : Int64) (d20 : Int64) (r : Int32) (X : Stand p l e room_1 s m args below meth c T locs 0 0) (eT : T.heap = h) (N : Fr n0 locs) (hsz : n0 ≤ h.size) (hp10 : (0 ≤ x10.toInt)) (hp12 : (1 ≤ x12.toInt)) (hp14 : (0 ≤ x14.toInt)) (hr : f0_196a x10 x12 x14 x16 = r) :
    OG p e below s (fun v h L => v = (some (.int r)) ∧ Fr n0 L) 16 128 T (mkF m 196 #[.val (.long d0), .second, .val (.long d2), .second, .val (.long d4), .second, .val (.long d6), .second, .val (.int d8), .val (.int d9), .val (.long x10), .second, .val (.long x12), .second, .val (.long x14), .second, .val (.long x16), .second, .val (.long d18), .second, .val (.long d20), .second] []) := by
  have hr : (f0_218a ((f4_0 ((f2_0 x14 x12).1) ((f2_0 x14 x12).2) x10 x16).2.1) ((f4_0 ((f2_0 x14 x12).1) ((f2_0 x14 x12).2) x10 x16).2.2) x10 x12 x14 x16 ((f4_0 ((f2_0 x14 x12).1) ((f2_0 x14 x12).2) x10 x16).1)) = r := hr
  refine o_new X hx hZ hown eT (hw _ (List.mem_of_getElem? (i := 5) rfl)) (hw _ (List.mem_of_getElem? (i := 6) rfl)) (hw _ (List.mem_of_getElem? (i := 7) rfl)) (hb hby at_196) (pc' := 199) rfl (by decide) (by decide) ?_
  intro T26 h26 a26 X26 e26 q26 E26 A26 D26
  have g26 : n0 ≤ a26 := Nat.le_trans hsz (Nat.le_of_eq q26.symm)
  have z26 : n0 ≤ h26.size := Nat.le_trans hsz E26.1
  have F26_nodes : Fld Z h26 a26 "com/example/gangway/gangway/policy/ShareLevel" "nodes" "J" (.long (0 : Int64)) := D26 (Or.inl (hw _ (List.mem_of_getElem? (i := 15) rfl))) (ty := .long) (by decide)
  have F26_jobs : Fld Z h26 a26 "com/example/gangway/gangway/policy/ShareLevel" "jobs" "J" (.long (0 : Int64)) := D26 (Or.inl (hw _ (List.mem_of_getElem? (i := 17) rfl))) (ty := .long) (by decide)
  refine o_dup X26 hx (hb hby at_199) rfl (pc' := 200) rfl ?_
  refine o_lload X26 hx (hb hby at_200) rfl (pc' := 202) rfl ?_
  refine o_lload X26 hx (hb hby at_202) rfl (pc' := 204) rfl ?_
  refine o_special X26 hx hZ (argsL := [(.long x14), (.long x12)]) (rest := [(.ref a26)]) (a := a26) 1 rfl hown e26 (hw _ (List.mem_of_getElem? (i := 8) rfl)) (hw _ (List.mem_of_getElem? (i := 9) rfl)) (hw _ (List.mem_of_getElem? (i := 7) rfl)) (hw _ (List.mem_of_getElem? (i := 10) rfl)) (by decide) (rm2 l Z a0 hw [] a26 x14 x12 (.long (0 : Int64)) (.long (0 : Int64)) h26 n0 z26 A26 F26_nodes F26_jobs g26 (f2_0 x14 x12) rfl) (by decide) (by decide) (by rw [hml]; rfl) (lenOf pd_0 rfl) rfl (Nat.le_refl _) (hb hby at_204) (pc' := 207) rfl (by decide) (by decide) ?_
  rintro _ T27 L27 X27 ⟨rfl, N27, K27, B27, F27_nodes, F27_jobs⟩
  replace X27 : Stand p l e room_1 s m args below meth c T27 (locs ++ L27) 1 2 := X27
  have M27 := Fr.app N N27
  dsimp only [Option.toList, List.cons_append, List.nil_append]
  have A27_a26 := Exa.keep A26 K27
  have z27 : n0 ≤ T27.heap.size := Nat.le_trans z26 K27.1
  refine o_astore X27 hx (hb hby at_207) rfl #[.val (.long d0), .second, .val (.long d2), .second, .val (.long d4), .second, .val (.long d6), .second, .val (.int d8), .val (.int d9), .val (.long x10), .second, .val (.long x12), .second, .val (.long x14), .second, .val (.long x16), .second, .val (.ref a26), .unset, .val (.long d20), .second] rfl (pc' := 209) rfl ?_
  refine o_aload X27 hx (hb hby at_209) rfl rfl (pc' := 211) rfl ?_
  refine o_lload X27 hx (hb hby at_211) rfl (pc' := 213) rfl ?_
  refine o_lload X27 hx (hb hby at_213) rfl (pc' := 215) rfl ?_
  refine o_virtual X27 hx hZ (argsL := [(.long x10), (.long x16)]) (rest := []) (a := a26) 0 hown (rfl : T27.heap = T27.heap) (hw _ (List.mem_of_getElem? (i := 18) rfl)) (hw _ (List.mem_of_getElem? (i := 19) rfl)) (hw _ (List.mem_of_getElem? (i := 21) rfl)) (hw _ (List.mem_of_getElem? (i := 20) rfl)) (hw _ (List.mem_of_getElem? (i := 7) rfl)) (hw _ (List.mem_of_getElem? (i := 22) rfl)) (by decide) B27 (rm4 l Z a0 hw [] a26 x10 x16 ((f2_0 x14 x12).1) ((f2_0 x14 x12).2) T27.heap n0 z27 B27 F27_nodes F27_jobs g26 (own_ne hp12) (f4_0 ((f2_0 x14 x12).1) ((f2_0 x14 x12).2) x10 x16) rfl) (by decide) (by decide) (by rw [hml]; rfl) (lenOf pd_1 rfl) rfl (Nat.le_refl _) (hb hby at_215) (pc' := 218) rfl (by decide) (by decide) ?_
  rintro _ T28 L28 X28 ⟨rfl, N28, K28, B28, F28_nodes, F28_jobs⟩
  replace X28 : Stand p l e room_1 s m args below meth c T28 ((locs ++ L27) ++ L28) 1 2 := X28
  have M28 := Fr.app M27 N28
  dsimp only [Option.toList, List.cons_append, List.nil_append]
  have A28_a26 := Exa.keep B27 K28
  have z28 : n0 ≤ T28.heap.size := Nat.le_trans z27 K28.1
  exact b0_218a hx hZ hw hby hml hown hnm hret hlk a26 ((f4_0 ((f2_0 x14 x12).1) ((f2_0 x14 x12).2) x10 x16).2.1) ((f4_0 ((f2_0 x14 x12).1) ((f2_0 x14 x12).2) x10 x16).2.2) d0 d2 d4 d6 d8 d9 x10 x12 x14 x16 d20 ((f4_0 ((f2_0 x14 x12).1) ((f2_0 x14 x12).2) x10 x16).1) r X28 (rfl : T28.heap = T28.heap) M28 z28 B28 F28_nodes F28_jobs g26 hp10 hp12 hp14 hr
def f0_172a (x6 : Int64) (x8 : Int32) (x10 : Int64) (x12 : Int64) (x14 : Int64) : Int32 := (if (x8 &&& (128 : Int32)) = (0 : Int32) then (f0_196a x10 x12 x14 ((x6 &&& (9223372036854775807 : Int64)) % x12)) else (f0_196a x10 x12 x14 x12))
set_option maxRecDepth 65536 in
set_option maxHeartbeats 40000000 in
theorem b0_172a {p : Program} {l : Launch} {e : Env} {s : State} {m : MethodId} {args : Array Value} {below : List Frame} {meth : Method} {c : Code} {Z : State} {a0 : Array Value} {n0 : Nat} (hx : p.tables.exec = Jvm.exec) (hZ : Z.Warmed39 s.vm) (hw : ∀ d ∈ tables_1, d.before a0 Z = true) (hby : c.code = code) (hml : c.maxLocals = 22) (hown : s.vm.findClass "com/example/gangway/gangway/policy/ShareLevelTakeWholePinLaw" = some m.cls) (hnm : meth.name = "law") (hret : meth.sig.returnType = some .boolean) (hlk : meth.locks = false)  {T : State} {locs : List Loc} {h : Heap} (d0 : Int64) (d2 : Int64) (d4 : Int64) (x6 : Int64) (x8 : Int32) (d9 : Int32) (x10 : Int64) (x12 : Int64) (x14 : Int64) (d16 : Int64) (d18 : Int64) (d20 : Int64) (r : Int32) (X : Stand p l e room_1 s m args below meth c T locs 0 0) (eT : T.heap = h) (N : Fr n0 locs) (hsz : n0 ≤ h.size) (hp10 : (0 ≤ x10.toInt)) (hp12 : (1 ≤ x12.toInt)) (hp14 : (0 ≤ x14.toInt)) (hr : f0_172a x6 x8 x10 x12 x14 = r) :
    OG p e below s (fun v h L => v = (some (.int r)) ∧ Fr n0 L) 16 128 T (mkF m 172 #[.val (.long d0), .second, .val (.long d2), .second, .val (.long d4), .second, .val (.long x6), .second, .val (.int x8), .val (.int d9), .val (.long x10), .second, .val (.long x12), .second, .val (.long x14), .second, .val (.long d16), .second, .val (.long d18), .second, .val (.long d20), .second] []) := by
  have hr : (if (x8 &&& (128 : Int32)) = (0 : Int32) then (f0_196a x10 x12 x14 ((x6 &&& (9223372036854775807 : Int64)) % x12)) else (f0_196a x10 x12 x14 x12)) = r := hr
  refine o_lload X hx (hb hby at_172) rfl (pc' := 174) rfl ?_
  refine o_ldc2Long X hx hZ hown (hb hby at_174) (hw _ (List.mem_of_getElem? (i := 0) rfl)) (pc' := 177) rfl ?_
  refine o_land X hx (hb hby at_177) (pc' := 178) rfl ?_
  refine o_lload X hx (hb hby at_178) rfl (pc' := 180) rfl ?_
  refine o_lrem X hx (hb hby at_180) (own_ne hp12) (pc' := 181) rfl ?_
  refine o_lstore X hx (hb hby at_181) #[.val (.long d0), .second, .val (.long d2), .second, .val (.long d4), .second, .val (.long x6), .second, .val (.int x8), .val (.int d9), .val (.long x10), .second, .val (.long x12), .second, .val (.long x14), .second, .val (.long ((x6 &&& (9223372036854775807 : Int64)) % x12)), .second, .val (.long d18), .second, .val (.long d20), .second] rfl (pc' := 183) rfl ?_
  refine o_iload X hx (hb hby at_183) rfl (pc' := 185) rfl ?_
  refine o_sipush X hx (hb hby at_185) (128 : Int32) rfl (pc' := 188) rfl ?_
  refine o_iand X hx (hb hby at_188) (pc' := 189) rfl ?_
  by_cases hc25 : (x8 &&& (128 : Int32)) = (0 : Int32)
  · rw [if_pos hc25] at hr
    refine o_ifYes X hx (hb hby at_189) (z_teq hc25).1 (pc' := 196) (by decide) (by decide) ?_
    exact b0_196a hx hZ hw hby hml hown hnm hret hlk d0 d2 d4 x6 x8 d9 x10 x12 x14 ((x6 &&& (9223372036854775807 : Int64)) % x12) d18 d20 r X eT N hsz hp10 hp12 hp14 hr
  · rw [if_neg hc25] at hr
    refine o_ifNo X hx (hb hby at_189) (z_feq hc25).1 (pc' := 192) rfl ?_
    refine o_lload X hx (hb hby at_192) rfl (pc' := 194) rfl ?_
    refine o_lstore X hx (hb hby at_194) #[.val (.long d0), .second, .val (.long d2), .second, .val (.long d4), .second, .val (.long x6), .second, .val (.int x8), .val (.int d9), .val (.long x10), .second, .val (.long x12), .second, .val (.long x14), .second, .val (.long x12), .second, .val (.long d18), .second, .val (.long d20), .second] rfl (pc' := 196) rfl ?_
    exact b0_196a hx hZ hw hby hml hown hnm hret hlk d0 d2 d4 x6 x8 d9 x10 x12 x14 x12 d18 d20 r X eT N hsz hp10 hp12 hp14 hr
def f0_162 (x6 : Int64) (x8 : Int32) (x10 : Int64) (x12 : Int64) (t0 : Int64) : Int32 := (f0_172a x6 x8 x10 x12 (f1_0 (0 : Int64) t0))
set_option maxRecDepth 65536 in
set_option maxHeartbeats 40000000 in
theorem b0_162 {p : Program} {l : Launch} {e : Env} {s : State} {m : MethodId} {args : Array Value} {below : List Frame} {meth : Method} {c : Code} {Z : State} {a0 : Array Value} {n0 : Nat} (hx : p.tables.exec = Jvm.exec) (hZ : Z.Warmed39 s.vm) (hw : ∀ d ∈ tables_1, d.before a0 Z = true) (hby : c.code = code) (hml : c.maxLocals = 22) (hown : s.vm.findClass "com/example/gangway/gangway/policy/ShareLevelTakeWholePinLaw" = some m.cls) (hnm : meth.name = "law") (hret : meth.sig.returnType = some .boolean) (hlk : meth.locks = false)  {T : State} {locs : List Loc} {h : Heap} (d0 : Int64) (d2 : Int64) (d4 : Int64) (x6 : Int64) (x8 : Int32) (d9 : Int32) (x10 : Int64) (x12 : Int64) (d14 : Int64) (d16 : Int64) (d18 : Int64) (t0 : Int64) (r : Int32) (X : Stand p l e room_1 s m args below meth c T locs 0 0) (eT : T.heap = h) (N : Fr n0 locs) (hsz : n0 ≤ h.size) (hp10 : (0 ≤ x10.toInt)) (hp12 : (1 ≤ x12.toInt)) (hr : f0_162 x6 x8 x10 x12 t0 = r) :
    OG p e below s (fun v h L => v = (some (.int r)) ∧ Fr n0 L) 16 128 T (mkF m 162 #[.val (.long d0), .second, .val (.long d2), .second, .val (.long d4), .second, .val (.long x6), .second, .val (.int x8), .val (.int d9), .val (.long x10), .second, .val (.long x12), .second, .val (.long d14), .second, .val (.long d16), .second, .val (.long d18), .second, .unset, .unset] [(.long t0)]) := by
  have hr : (f0_172a x6 x8 x10 x12 (f1_0 (0 : Int64) t0)) = r := hr
  refine o_lstore X hx (hb hby at_162) #[.val (.long d0), .second, .val (.long d2), .second, .val (.long d4), .second, .val (.long x6), .second, .val (.int x8), .val (.int d9), .val (.long x10), .second, .val (.long x12), .second, .val (.long d14), .second, .val (.long d16), .second, .val (.long d18), .second, .val (.long t0), .second] rfl (pc' := 164) rfl ?_
  refine o_lconst X hx (hb hby at_164) (0 : Int64) rfl (pc' := 165) rfl ?_
  refine o_lload X hx (hb hby at_165) rfl (pc' := 167) rfl ?_
  refine o_callS X hx hZ (argsL := [(.long (0 : Int64)), (.long t0)]) (rest := []) 0 hown eT (hw _ (List.mem_of_getElem? (i := 1) rfl)) (hw _ (List.mem_of_getElem? (i := 2) rfl)) (hw _ (List.mem_of_getElem? (i := 3) rfl)) (hw _ (List.mem_of_getElem? (i := 4) rfl)) (by decide) (rm1 l Z a0 hw [] (0 : Int64) t0 h n0 hsz (f1_0 (0 : Int64) t0) rfl) (by decide) (by decide) (by rw [hml]; rfl) (lenOf pd_4 rfl) rfl (Nat.le_refl _) (hb hby at_167) (pc' := 170) rfl (by decide) (by decide) ?_
  rintro _ T24 L24 X24 ⟨rfl, N24, e24⟩
  replace X24 : Stand p l e room_1 s m args below meth c T24 (locs ++ L24) 0 0 := X24
  have M24 := Fr.app N N24
  dsimp only [Option.toList, List.cons_append, List.nil_append]
  refine o_lstore X24 hx (hb hby at_170) #[.val (.long d0), .second, .val (.long d2), .second, .val (.long d4), .second, .val (.long x6), .second, .val (.int x8), .val (.int d9), .val (.long x10), .second, .val (.long x12), .second, .val (.long (f1_0 (0 : Int64) t0)), .second, .val (.long d16), .second, .val (.long d18), .second, .val (.long t0), .second] rfl (pc' := 172) rfl ?_
  exact b0_172a hx hZ hw hby hml hown hnm hret hlk d0 d2 d4 x6 x8 d9 x10 x12 (f1_0 (0 : Int64) t0) d16 d18 t0 r X24 e24 M24 hsz hp10 hp12 (own_max0 _) hr
def f0_157 (x6 : Int64) (x8 : Int32) (x10 : Int64) (x12 : Int64) (x16 : Int64) (x18 : Int64) : Int32 := (f0_162 x6 x8 x10 x12 (x16 + x18))
set_option maxRecDepth 65536 in
set_option maxHeartbeats 40000000 in
theorem b0_157 {p : Program} {l : Launch} {e : Env} {s : State} {m : MethodId} {args : Array Value} {below : List Frame} {meth : Method} {c : Code} {Z : State} {a0 : Array Value} {n0 : Nat} (hx : p.tables.exec = Jvm.exec) (hZ : Z.Warmed39 s.vm) (hw : ∀ d ∈ tables_1, d.before a0 Z = true) (hby : c.code = code) (hml : c.maxLocals = 22) (hown : s.vm.findClass "com/example/gangway/gangway/policy/ShareLevelTakeWholePinLaw" = some m.cls) (hnm : meth.name = "law") (hret : meth.sig.returnType = some .boolean) (hlk : meth.locks = false)  {T : State} {locs : List Loc} {h : Heap} (d0 : Int64) (d2 : Int64) (d4 : Int64) (x6 : Int64) (x8 : Int32) (d9 : Int32) (x10 : Int64) (x12 : Int64) (d14 : Int64) (x16 : Int64) (x18 : Int64) (r : Int32) (X : Stand p l e room_1 s m args below meth c T locs 0 0) (eT : T.heap = h) (N : Fr n0 locs) (hsz : n0 ≤ h.size) (hp10 : (0 ≤ x10.toInt)) (hp12 : (1 ≤ x12.toInt)) (hr : f0_157 x6 x8 x10 x12 x16 x18 = r) :
    OG p e below s (fun v h L => v = (some (.int r)) ∧ Fr n0 L) 16 128 T (mkF m 157 #[.val (.long d0), .second, .val (.long d2), .second, .val (.long d4), .second, .val (.long x6), .second, .val (.int x8), .val (.int d9), .val (.long x10), .second, .val (.long x12), .second, .val (.long d14), .second, .val (.long x16), .second, .val (.long x18), .second, .unset, .unset] []) := by
  have hr : (f0_162 x6 x8 x10 x12 (x16 + x18)) = r := hr
  refine o_lload X hx (hb hby at_157) rfl (pc' := 159) rfl ?_
  refine o_lload X hx (hb hby at_159) rfl (pc' := 161) rfl ?_
  refine o_ladd X hx (hb hby at_161) (pc' := 162) rfl ?_
  exact b0_162 hx hZ hw hby hml hown hnm hret hlk d0 d2 d4 x6 x8 d9 x10 x12 d14 x16 x18 (x16 + x18) r X eT N hsz hp10 hp12 hr
def f0_133 (x6 : Int64) (x8 : Int32) (x10 : Int64) (x12 : Int64) (x16 : Int64) (x18 : Int64) : Int32 := (if (0 : Int64) < x18 then (if (9223372036854775799 : Int64) < x16 then (f0_162 x6 x8 x10 x12 (x16 - x18)) else (f0_157 x6 x8 x10 x12 x16 x18)) else (f0_157 x6 x8 x10 x12 x16 x18))
set_option maxRecDepth 65536 in
set_option maxHeartbeats 40000000 in
theorem b0_133 {p : Program} {l : Launch} {e : Env} {s : State} {m : MethodId} {args : Array Value} {below : List Frame} {meth : Method} {c : Code} {Z : State} {a0 : Array Value} {n0 : Nat} (hx : p.tables.exec = Jvm.exec) (hZ : Z.Warmed39 s.vm) (hw : ∀ d ∈ tables_1, d.before a0 Z = true) (hby : c.code = code) (hml : c.maxLocals = 22) (hown : s.vm.findClass "com/example/gangway/gangway/policy/ShareLevelTakeWholePinLaw" = some m.cls) (hnm : meth.name = "law") (hret : meth.sig.returnType = some .boolean) (hlk : meth.locks = false)  {T : State} {locs : List Loc} {h : Heap} (d0 : Int64) (d2 : Int64) (d4 : Int64) (x6 : Int64) (x8 : Int32) (d9 : Int32) (x10 : Int64) (x12 : Int64) (d14 : Int64) (x16 : Int64) (x18 : Int64) (r : Int32) (X : Stand p l e room_1 s m args below meth c T locs 0 0) (eT : T.heap = h) (N : Fr n0 locs) (hsz : n0 ≤ h.size) (hp10 : (0 ≤ x10.toInt)) (hp12 : (1 ≤ x12.toInt)) (hr : f0_133 x6 x8 x10 x12 x16 x18 = r) :
    OG p e below s (fun v h L => v = (some (.int r)) ∧ Fr n0 L) 16 128 T (mkF m 133 #[.val (.long d0), .second, .val (.long d2), .second, .val (.long d4), .second, .val (.long x6), .second, .val (.int x8), .val (.int d9), .val (.long x10), .second, .val (.long x12), .second, .val (.long d14), .second, .val (.long x16), .second, .val (.long x18), .second, .unset, .unset] []) := by
  have hr : (if (0 : Int64) < x18 then (if (9223372036854775799 : Int64) < x16 then (f0_162 x6 x8 x10 x12 (x16 - x18)) else (f0_157 x6 x8 x10 x12 x16 x18)) else (f0_157 x6 x8 x10 x12 x16 x18)) = r := hr
  refine o_lload X hx (hb hby at_133) rfl (pc' := 135) rfl ?_
  refine o_lconst X hx (hb hby at_135) (0 : Int64) rfl (pc' := 136) rfl ?_
  refine o_lcmp X hx (hb hby at_136) (pc' := 137) rfl ?_
  by_cases hc22 : (0 : Int64) < x18
  · rw [if_pos hc22] at hr
    refine o_ifNo X hx (hb hby at_137) (l_tgt hc22).2 (pc' := 140) rfl ?_
    refine o_lload X hx (hb hby at_140) rfl (pc' := 142) rfl ?_
    refine o_ldc2Long X hx hZ hown (hb hby at_142) (hw _ (List.mem_of_getElem? (i := 38) rfl)) (pc' := 145) rfl ?_
    refine o_lcmp X hx (hb hby at_145) (pc' := 146) rfl ?_
    by_cases hc23 : (9223372036854775799 : Int64) < x16
    · rw [if_pos hc23] at hr
      refine o_ifNo X hx (hb hby at_146) (l_tgt hc23).2 (pc' := 149) rfl ?_
      refine o_lload X hx (hb hby at_149) rfl (pc' := 151) rfl ?_
      refine o_lload X hx (hb hby at_151) rfl (pc' := 153) rfl ?_
      refine o_lsub X hx (hb hby at_153) (pc' := 154) rfl ?_
      refine o_goto X hx (hb hby at_154) (pc' := 162) (by decide) (by decide) ?_
      exact b0_162 hx hZ hw hby hml hown hnm hret hlk d0 d2 d4 x6 x8 d9 x10 x12 d14 x16 x18 (x16 - x18) r X eT N hsz hp10 hp12 hr
    · rw [if_neg hc23] at hr
      refine o_ifYes X hx (hb hby at_146) (l_fgt hc23).2 (pc' := 157) (by decide) (by decide) ?_
      exact b0_157 hx hZ hw hby hml hown hnm hret hlk d0 d2 d4 x6 x8 d9 x10 x12 d14 x16 x18 r X eT N hsz hp10 hp12 hr
  · rw [if_neg hc22] at hr
    refine o_ifYes X hx (hb hby at_137) (l_fgt hc22).2 (pc' := 157) (by decide) (by decide) ?_
    exact b0_157 hx hZ hw hby hml hown hnm hret hlk d0 d2 d4 x6 x8 d9 x10 x12 d14 x16 x18 r X eT N hsz hp10 hp12 hr
def f0_93 (x0 : Int64) (x6 : Int64) (x8 : Int32) (x9 : Int32) (x10 : Int64) (x12 : Int64) : Int32 := (if (x8 &&& (4 : Int32)) = (0 : Int32) then (f0_172 x6 x8 x10 x12 (x0 &&& (9223372036854775807 : Int64))) else (if x9 = (2 : Int32) then (f0_172 x6 x8 x10 x12 (x0 &&& (9223372036854775807 : Int64))) else (f0_133 x6 x8 x10 x12 (x10 * x12) (((((x8.toUInt32 >>> ((3 : Int32) &&& 31).toUInt32).toInt32) &&& (15 : Int32)) - (8 : Int32)).toInt64))))
set_option maxRecDepth 65536 in
set_option maxHeartbeats 40000000 in
theorem b0_93 {p : Program} {l : Launch} {e : Env} {s : State} {m : MethodId} {args : Array Value} {below : List Frame} {meth : Method} {c : Code} {Z : State} {a0 : Array Value} {n0 : Nat} (hx : p.tables.exec = Jvm.exec) (hZ : Z.Warmed39 s.vm) (hw : ∀ d ∈ tables_1, d.before a0 Z = true) (hby : c.code = code) (hml : c.maxLocals = 22) (hown : s.vm.findClass "com/example/gangway/gangway/policy/ShareLevelTakeWholePinLaw" = some m.cls) (hnm : meth.name = "law") (hret : meth.sig.returnType = some .boolean) (hlk : meth.locks = false)  {T : State} {locs : List Loc} {h : Heap} (x0 : Int64) (d2 : Int64) (d4 : Int64) (x6 : Int64) (x8 : Int32) (x9 : Int32) (x10 : Int64) (x12 : Int64) (r : Int32) (X : Stand p l e room_1 s m args below meth c T locs 0 0) (eT : T.heap = h) (N : Fr n0 locs) (hsz : n0 ≤ h.size) (hp10 : (0 ≤ x10.toInt)) (hp12 : (1 ≤ x12.toInt)) (hr : f0_93 x0 x6 x8 x9 x10 x12 = r) :
    OG p e below s (fun v h L => v = (some (.int r)) ∧ Fr n0 L) 16 128 T (mkF m 93 #[.val (.long x0), .second, .val (.long d2), .second, .val (.long d4), .second, .val (.long x6), .second, .val (.int x8), .val (.int x9), .val (.long x10), .second, .val (.long x12), .second, .unset, .unset, .unset, .unset, .unset, .unset, .unset, .unset] []) := by
  have hr : (if (x8 &&& (4 : Int32)) = (0 : Int32) then (f0_172 x6 x8 x10 x12 (x0 &&& (9223372036854775807 : Int64))) else (if x9 = (2 : Int32) then (f0_172 x6 x8 x10 x12 (x0 &&& (9223372036854775807 : Int64))) else (f0_133 x6 x8 x10 x12 (x10 * x12) (((((x8.toUInt32 >>> ((3 : Int32) &&& 31).toUInt32).toInt32) &&& (15 : Int32)) - (8 : Int32)).toInt64)))) = r := hr
  refine o_lload_n X hx (hb hby at_93) rfl (pc' := 94) rfl ?_
  refine o_ldc2Long X hx hZ hown (hb hby at_94) (hw _ (List.mem_of_getElem? (i := 0) rfl)) (pc' := 97) rfl ?_
  refine o_land X hx (hb hby at_97) (pc' := 98) rfl ?_
  refine o_lstore X hx (hb hby at_98) #[.val (.long x0), .second, .val (.long d2), .second, .val (.long d4), .second, .val (.long x6), .second, .val (.int x8), .val (.int x9), .val (.long x10), .second, .val (.long x12), .second, .val (.long (x0 &&& (9223372036854775807 : Int64))), .second, .unset, .unset, .unset, .unset, .unset, .unset] rfl (pc' := 100) rfl ?_
  refine o_iload X hx (hb hby at_100) rfl (pc' := 102) rfl ?_
  refine o_iconst X hx (hb hby at_102) (4 : Int32) rfl (pc' := 103) rfl ?_
  refine o_iand X hx (hb hby at_103) (pc' := 104) rfl ?_
  by_cases hc2 : (x8 &&& (4 : Int32)) = (0 : Int32)
  · rw [if_pos hc2] at hr
    refine o_ifYes X hx (hb hby at_104) (z_teq hc2).1 (pc' := 172) (by decide) (by decide) ?_
    exact b0_172 hx hZ hw hby hml hown hnm hret hlk x0 d2 d4 x6 x8 x9 x10 x12 (x0 &&& (9223372036854775807 : Int64)) r X eT N hsz hp10 hp12 (own_max _) hr
  · rw [if_neg hc2] at hr
    refine o_ifNo X hx (hb hby at_104) (z_feq hc2).1 (pc' := 107) rfl ?_
    refine o_iload X hx (hb hby at_107) rfl (pc' := 109) rfl ?_
    refine o_iconst X hx (hb hby at_109) (2 : Int32) rfl (pc' := 110) rfl ?_
    by_cases hc21 : x9 = (2 : Int32)
    · rw [if_pos hc21] at hr
      refine o_icmpYes X hx (hb hby at_110) (c_teq hc21).1 (pc' := 172) (by decide) (by decide) ?_
      exact b0_172 hx hZ hw hby hml hown hnm hret hlk x0 d2 d4 x6 x8 x9 x10 x12 (x0 &&& (9223372036854775807 : Int64)) r X eT N hsz hp10 hp12 (own_max _) hr
    · rw [if_neg hc21] at hr
      refine o_icmpNo X hx (hb hby at_110) (c_feq hc21).1 (pc' := 113) rfl ?_
      refine o_lload X hx (hb hby at_113) rfl (pc' := 115) rfl ?_
      refine o_lload X hx (hb hby at_115) rfl (pc' := 117) rfl ?_
      refine o_lmul X hx (hb hby at_117) (pc' := 118) rfl ?_
      refine o_lstore X hx (hb hby at_118) #[.val (.long x0), .second, .val (.long d2), .second, .val (.long d4), .second, .val (.long x6), .second, .val (.int x8), .val (.int x9), .val (.long x10), .second, .val (.long x12), .second, .val (.long (x0 &&& (9223372036854775807 : Int64))), .second, .val (.long (x10 * x12)), .second, .unset, .unset, .unset, .unset] rfl (pc' := 120) rfl ?_
      refine o_iload X hx (hb hby at_120) rfl (pc' := 122) rfl ?_
      refine o_iconst X hx (hb hby at_122) (3 : Int32) rfl (pc' := 123) rfl ?_
      refine o_iushr X hx (hb hby at_123) (pc' := 124) rfl ?_
      refine o_bipush X hx (hb hby at_124) (15 : Int32) rfl (pc' := 126) rfl ?_
      refine o_iand X hx (hb hby at_126) (pc' := 127) rfl ?_
      refine o_bipush X hx (hb hby at_127) (8 : Int32) rfl (pc' := 129) rfl ?_
      refine o_isub X hx (hb hby at_129) (pc' := 130) rfl ?_
      refine o_i2l X hx (hb hby at_130) (pc' := 131) rfl ?_
      refine o_lstore X hx (hb hby at_131) #[.val (.long x0), .second, .val (.long d2), .second, .val (.long d4), .second, .val (.long x6), .second, .val (.int x8), .val (.int x9), .val (.long x10), .second, .val (.long x12), .second, .val (.long (x0 &&& (9223372036854775807 : Int64))), .second, .val (.long (x10 * x12)), .second, .val (.long (((((x8.toUInt32 >>> ((3 : Int32) &&& 31).toUInt32).toInt32) &&& (15 : Int32)) - (8 : Int32)).toInt64)), .second, .unset, .unset] rfl (pc' := 133) rfl ?_
      exact b0_133 hx hZ hw hby hml hown hnm hret hlk x0 d2 d4 x6 x8 x9 x10 x12 (x0 &&& (9223372036854775807 : Int64)) (x10 * x12) (((((x8.toUInt32 >>> ((3 : Int32) &&& 31).toUInt32).toInt32) &&& (15 : Int32)) - (8 : Int32)).toInt64) r X eT N hsz hp10 hp12 hr
def f0_0 (x0 : Int64) (x2 : Int64) (x4 : Int64) (x6 : Int64) (x8 : Int32) : Int32 := (if (x8 &&& (3 : Int32)) = (0 : Int32) then (f0_93 x0 x6 x8 (x8 &&& (3 : Int32)) (x2 &&& (2147483647 : Int64)) ((x4 &&& (2147483647 : Int64)) + (1 : Int64))) else (if (x8 &&& (3 : Int32)) = (1 : Int32) then (f0_93 x0 x6 x8 (x8 &&& (3 : Int32)) (x2 &&& (9223372036854775807 : Int64)) (1 : Int64)) else (if (x8 &&& (3 : Int32)) = (2 : Int32) then (f0_93 x0 x6 x8 (x8 &&& (3 : Int32)) (x2 &&& (9223372036854775807 : Int64)) (f1_0 (1 : Int64) (x4 &&& (9223372036854775807 : Int64)))) else (f0_93 x0 x6 x8 (x8 &&& (3 : Int32)) (1 : Int64) (f1_0 (1 : Int64) (x4 &&& (9223372036854775807 : Int64)))))))
set_option maxRecDepth 65536 in
set_option maxHeartbeats 40000000 in
theorem b0_0 {p : Program} {l : Launch} {e : Env} {s : State} {m : MethodId} {args : Array Value} {below : List Frame} {meth : Method} {c : Code} {Z : State} {a0 : Array Value} {n0 : Nat} (hx : p.tables.exec = Jvm.exec) (hZ : Z.Warmed39 s.vm) (hw : ∀ d ∈ tables_1, d.before a0 Z = true) (hby : c.code = code) (hml : c.maxLocals = 22) (hown : s.vm.findClass "com/example/gangway/gangway/policy/ShareLevelTakeWholePinLaw" = some m.cls) (hnm : meth.name = "law") (hret : meth.sig.returnType = some .boolean) (hlk : meth.locks = false)  {T : State} {locs : List Loc} {h : Heap} (x0 : Int64) (x2 : Int64) (x4 : Int64) (x6 : Int64) (x8 : Int32) (r : Int32) (X : Stand p l e room_1 s m args below meth c T locs 0 0) (eT : T.heap = h) (N : Fr n0 locs) (hsz : n0 ≤ h.size) (hr : f0_0 x0 x2 x4 x6 x8 = r) :
    OG p e below s (fun v h L => v = (some (.int r)) ∧ Fr n0 L) 16 128 T (mkF m 0 #[.val (.long x0), .second, .val (.long x2), .second, .val (.long x4), .second, .val (.long x6), .second, .val (.int x8), .unset, .unset, .unset, .unset, .unset, .unset, .unset, .unset, .unset, .unset, .unset, .unset, .unset] []) := by
  have hr : (if (x8 &&& (3 : Int32)) = (0 : Int32) then (f0_93 x0 x6 x8 (x8 &&& (3 : Int32)) (x2 &&& (2147483647 : Int64)) ((x4 &&& (2147483647 : Int64)) + (1 : Int64))) else (if (x8 &&& (3 : Int32)) = (1 : Int32) then (f0_93 x0 x6 x8 (x8 &&& (3 : Int32)) (x2 &&& (9223372036854775807 : Int64)) (1 : Int64)) else (if (x8 &&& (3 : Int32)) = (2 : Int32) then (f0_93 x0 x6 x8 (x8 &&& (3 : Int32)) (x2 &&& (9223372036854775807 : Int64)) (f1_0 (1 : Int64) (x4 &&& (9223372036854775807 : Int64)))) else (f0_93 x0 x6 x8 (x8 &&& (3 : Int32)) (1 : Int64) (f1_0 (1 : Int64) (x4 &&& (9223372036854775807 : Int64))))))) = r := hr
  refine o_iload X hx (hb hby at_0) rfl (pc' := 2) rfl ?_
  refine o_iconst X hx (hb hby at_2) (3 : Int32) rfl (pc' := 3) rfl ?_
  refine o_iand X hx (hb hby at_3) (pc' := 4) rfl ?_
  refine o_istore X hx (hb hby at_4) #[.val (.long x0), .second, .val (.long x2), .second, .val (.long x4), .second, .val (.long x6), .second, .val (.int x8), .val (.int (x8 &&& (3 : Int32))), .unset, .unset, .unset, .unset, .unset, .unset, .unset, .unset, .unset, .unset, .unset, .unset] rfl (pc' := 6) rfl ?_
  refine o_iload X hx (hb hby at_6) rfl (pc' := 8) rfl ?_
  by_cases hc1 : (x8 &&& (3 : Int32)) = (0 : Int32)
  · rw [if_pos hc1] at hr
    refine o_ifNo X hx (hb hby at_8) (z_teq hc1).2 (pc' := 11) rfl ?_
    refine o_lload_n X hx (hb hby at_11) rfl (pc' := 12) rfl ?_
    refine o_ldc2Long X hx hZ hown (hb hby at_12) (hw _ (List.mem_of_getElem? (i := 37) rfl)) (pc' := 15) rfl ?_
    refine o_land X hx (hb hby at_15) (pc' := 16) rfl ?_
    refine o_lstore X hx (hb hby at_16) #[.val (.long x0), .second, .val (.long x2), .second, .val (.long x4), .second, .val (.long x6), .second, .val (.int x8), .val (.int (x8 &&& (3 : Int32))), .val (.long (x2 &&& (2147483647 : Int64))), .second, .unset, .unset, .unset, .unset, .unset, .unset, .unset, .unset, .unset, .unset] rfl (pc' := 18) rfl ?_
    refine o_lload X hx (hb hby at_18) rfl (pc' := 20) rfl ?_
    refine o_ldc2Long X hx hZ hown (hb hby at_20) (hw _ (List.mem_of_getElem? (i := 37) rfl)) (pc' := 23) rfl ?_
    refine o_land X hx (hb hby at_23) (pc' := 24) rfl ?_
    refine o_lconst X hx (hb hby at_24) (1 : Int64) rfl (pc' := 25) rfl ?_
    refine o_ladd X hx (hb hby at_25) (pc' := 26) rfl ?_
    refine o_lstore X hx (hb hby at_26) #[.val (.long x0), .second, .val (.long x2), .second, .val (.long x4), .second, .val (.long x6), .second, .val (.int x8), .val (.int (x8 &&& (3 : Int32))), .val (.long (x2 &&& (2147483647 : Int64))), .second, .val (.long ((x4 &&& (2147483647 : Int64)) + (1 : Int64))), .second, .unset, .unset, .unset, .unset, .unset, .unset, .unset, .unset] rfl (pc' := 28) rfl ?_
    refine o_goto X hx (hb hby at_28) (pc' := 93) (by decide) (by decide) ?_
    exact b0_93 hx hZ hw hby hml hown hnm hret hlk x0 x2 x4 x6 x8 (x8 &&& (3 : Int32)) (x2 &&& (2147483647 : Int64)) ((x4 &&& (2147483647 : Int64)) + (1 : Int64)) r X eT N hsz (own_and31' _).1 (own_add1 _) hr
  · rw [if_neg hc1] at hr
    refine o_ifYes X hx (hb hby at_8) (z_feq hc1).2 (pc' := 31) (by decide) (by decide) ?_
    refine o_iload X hx (hb hby at_31) rfl (pc' := 33) rfl ?_
    refine o_iconst X hx (hb hby at_33) (1 : Int32) rfl (pc' := 34) rfl ?_
    by_cases hc43 : (x8 &&& (3 : Int32)) = (1 : Int32)
    · rw [if_pos hc43] at hr
      refine o_icmpNo X hx (hb hby at_34) (c_teq hc43).2 (pc' := 37) rfl ?_
      refine o_lload_n X hx (hb hby at_37) rfl (pc' := 38) rfl ?_
      refine o_ldc2Long X hx hZ hown (hb hby at_38) (hw _ (List.mem_of_getElem? (i := 0) rfl)) (pc' := 41) rfl ?_
      refine o_land X hx (hb hby at_41) (pc' := 42) rfl ?_
      refine o_lstore X hx (hb hby at_42) #[.val (.long x0), .second, .val (.long x2), .second, .val (.long x4), .second, .val (.long x6), .second, .val (.int x8), .val (.int (x8 &&& (3 : Int32))), .val (.long (x2 &&& (9223372036854775807 : Int64))), .second, .unset, .unset, .unset, .unset, .unset, .unset, .unset, .unset, .unset, .unset] rfl (pc' := 44) rfl ?_
      refine o_lconst X hx (hb hby at_44) (1 : Int64) rfl (pc' := 45) rfl ?_
      refine o_lstore X hx (hb hby at_45) #[.val (.long x0), .second, .val (.long x2), .second, .val (.long x4), .second, .val (.long x6), .second, .val (.int x8), .val (.int (x8 &&& (3 : Int32))), .val (.long (x2 &&& (9223372036854775807 : Int64))), .second, .val (.long (1 : Int64)), .second, .unset, .unset, .unset, .unset, .unset, .unset, .unset, .unset] rfl (pc' := 47) rfl ?_
      refine o_goto X hx (hb hby at_47) (pc' := 93) (by decide) (by decide) ?_
      exact b0_93 hx hZ hw hby hml hown hnm hret hlk x0 x2 x4 x6 x8 (x8 &&& (3 : Int32)) (x2 &&& (9223372036854775807 : Int64)) (1 : Int64) r X eT N hsz (own_max _) (by decide) hr
    · rw [if_neg hc43] at hr
      refine o_icmpYes X hx (hb hby at_34) (c_feq hc43).2 (pc' := 50) (by decide) (by decide) ?_
      refine o_iload X hx (hb hby at_50) rfl (pc' := 52) rfl ?_
      refine o_iconst X hx (hb hby at_52) (2 : Int32) rfl (pc' := 53) rfl ?_
      by_cases hc44 : (x8 &&& (3 : Int32)) = (2 : Int32)
      · rw [if_pos hc44] at hr
        refine o_icmpNo X hx (hb hby at_53) (c_teq hc44).2 (pc' := 56) rfl ?_
        refine o_lload_n X hx (hb hby at_56) rfl (pc' := 57) rfl ?_
        refine o_ldc2Long X hx hZ hown (hb hby at_57) (hw _ (List.mem_of_getElem? (i := 0) rfl)) (pc' := 60) rfl ?_
        refine o_land X hx (hb hby at_60) (pc' := 61) rfl ?_
        refine o_lstore X hx (hb hby at_61) #[.val (.long x0), .second, .val (.long x2), .second, .val (.long x4), .second, .val (.long x6), .second, .val (.int x8), .val (.int (x8 &&& (3 : Int32))), .val (.long (x2 &&& (9223372036854775807 : Int64))), .second, .unset, .unset, .unset, .unset, .unset, .unset, .unset, .unset, .unset, .unset] rfl (pc' := 63) rfl ?_
        refine o_lconst X hx (hb hby at_63) (1 : Int64) rfl (pc' := 64) rfl ?_
        refine o_lload X hx (hb hby at_64) rfl (pc' := 66) rfl ?_
        refine o_ldc2Long X hx hZ hown (hb hby at_66) (hw _ (List.mem_of_getElem? (i := 0) rfl)) (pc' := 69) rfl ?_
        refine o_land X hx (hb hby at_69) (pc' := 70) rfl ?_
        refine o_callS X hx hZ (argsL := [(.long (1 : Int64)), (.long (x4 &&& (9223372036854775807 : Int64)))]) (rest := []) 0 hown eT (hw _ (List.mem_of_getElem? (i := 1) rfl)) (hw _ (List.mem_of_getElem? (i := 2) rfl)) (hw _ (List.mem_of_getElem? (i := 3) rfl)) (hw _ (List.mem_of_getElem? (i := 4) rfl)) (by decide) (rm1 l Z a0 hw [] (1 : Int64) (x4 &&& (9223372036854775807 : Int64)) h n0 hsz (f1_0 (1 : Int64) (x4 &&& (9223372036854775807 : Int64))) rfl) (by decide) (by decide) (by rw [hml]; rfl) (lenOf pd_4 rfl) rfl (Nat.le_refl _) (hb hby at_70) (pc' := 73) rfl (by decide) (by decide) ?_
        rintro _ T45 L45 X45 ⟨rfl, N45, e45⟩
        replace X45 : Stand p l e room_1 s m args below meth c T45 (locs ++ L45) 0 0 := X45
        have M45 := Fr.app N N45
        dsimp only [Option.toList, List.cons_append, List.nil_append]
        refine o_lstore X45 hx (hb hby at_73) #[.val (.long x0), .second, .val (.long x2), .second, .val (.long x4), .second, .val (.long x6), .second, .val (.int x8), .val (.int (x8 &&& (3 : Int32))), .val (.long (x2 &&& (9223372036854775807 : Int64))), .second, .val (.long (f1_0 (1 : Int64) (x4 &&& (9223372036854775807 : Int64)))), .second, .unset, .unset, .unset, .unset, .unset, .unset, .unset, .unset] rfl (pc' := 75) rfl ?_
        refine o_goto X45 hx (hb hby at_75) (pc' := 93) (by decide) (by decide) ?_
        exact b0_93 hx hZ hw hby hml hown hnm hret hlk x0 x2 x4 x6 x8 (x8 &&& (3 : Int32)) (x2 &&& (9223372036854775807 : Int64)) (f1_0 (1 : Int64) (x4 &&& (9223372036854775807 : Int64))) r X45 e45 M45 hsz (own_max _) (own_max1 _) hr
      · rw [if_neg hc44] at hr
        refine o_icmpYes X hx (hb hby at_53) (c_feq hc44).2 (pc' := 78) (by decide) (by decide) ?_
        refine o_lconst X hx (hb hby at_78) (1 : Int64) rfl (pc' := 79) rfl ?_
        refine o_lstore X hx (hb hby at_79) #[.val (.long x0), .second, .val (.long x2), .second, .val (.long x4), .second, .val (.long x6), .second, .val (.int x8), .val (.int (x8 &&& (3 : Int32))), .val (.long (1 : Int64)), .second, .unset, .unset, .unset, .unset, .unset, .unset, .unset, .unset, .unset, .unset] rfl (pc' := 81) rfl ?_
        refine o_lconst X hx (hb hby at_81) (1 : Int64) rfl (pc' := 82) rfl ?_
        refine o_lload X hx (hb hby at_82) rfl (pc' := 84) rfl ?_
        refine o_ldc2Long X hx hZ hown (hb hby at_84) (hw _ (List.mem_of_getElem? (i := 0) rfl)) (pc' := 87) rfl ?_
        refine o_land X hx (hb hby at_87) (pc' := 88) rfl ?_
        refine o_callS X hx hZ (argsL := [(.long (1 : Int64)), (.long (x4 &&& (9223372036854775807 : Int64)))]) (rest := []) 0 hown eT (hw _ (List.mem_of_getElem? (i := 1) rfl)) (hw _ (List.mem_of_getElem? (i := 2) rfl)) (hw _ (List.mem_of_getElem? (i := 3) rfl)) (hw _ (List.mem_of_getElem? (i := 4) rfl)) (by decide) (rm1 l Z a0 hw [] (1 : Int64) (x4 &&& (9223372036854775807 : Int64)) h n0 hsz (f1_0 (1 : Int64) (x4 &&& (9223372036854775807 : Int64))) rfl) (by decide) (by decide) (by rw [hml]; rfl) (lenOf pd_4 rfl) rfl (Nat.le_refl _) (hb hby at_88) (pc' := 91) rfl (by decide) (by decide) ?_
        rintro _ T46 L46 X46 ⟨rfl, N46, e46⟩
        replace X46 : Stand p l e room_1 s m args below meth c T46 (locs ++ L46) 0 0 := X46
        have M46 := Fr.app N N46
        dsimp only [Option.toList, List.cons_append, List.nil_append]
        refine o_lstore X46 hx (hb hby at_91) #[.val (.long x0), .second, .val (.long x2), .second, .val (.long x4), .second, .val (.long x6), .second, .val (.int x8), .val (.int (x8 &&& (3 : Int32))), .val (.long (1 : Int64)), .second, .val (.long (f1_0 (1 : Int64) (x4 &&& (9223372036854775807 : Int64)))), .second, .unset, .unset, .unset, .unset, .unset, .unset, .unset, .unset] rfl (pc' := 93) rfl ?_
        exact b0_93 hx hZ hw hby hml hown hnm hret hlk x0 x2 x4 x6 x8 (x8 &&& (3 : Int32)) (1 : Int64) (f1_0 (1 : Int64) (x4 &&& (9223372036854775807 : Int64))) r X46 e46 M46 hsz (by decide) (own_max1 _) hr
theorem own_f5 (s j n : Int64) (hs : 0 ≤ s.toInt) (hj : 1 ≤ j.toInt) (hn : 0 ≤ n.toInt) : (f5_0 s j n = 1 → ¬ (n / j < s)) ∧ (f5_0 s j n = 0 → n / j < s) := by
  have k0 : (0 : Int64).toInt = 0 := rfl
  have k1 : (1 : Int64).toInt = 1 := rfl
  have k2 : (2147483648 : Int64).toInt = 2147483648 := rfl
  have k3 : (4294967296 : Int64).toInt = 4294967296 := rfl
  have hsl := s.toInt_lt; have hjl := j.toInt_lt; have hnl := n.toInt_lt
  have ed : (n / j).toInt = n.toInt / j.toInt := by rw [Int64.toInt_div_of_ne_right _ _ (by intro q; rw [q] at hj; exact absurd hj (by decide)), Int.tdiv_eq_ediv_of_nonneg hn]
  have dT : (n / j < s) ↔ n.toInt < s.toInt * j.toInt := by rw [Int64.lt_iff_toInt_lt, ed, Int.ediv_lt_iff_lt_mul (by omega)]
  have mono : s.toInt ≤ s.toInt * j.toInt := by
    have := Int.mul_le_mul_of_nonneg_left hj hs; omega
  have m2 : 1 ≤ s.toInt → j.toInt ≤ s.toInt * j.toInt := fun q => by
    have := Int.mul_le_mul_of_nonneg_right q (show 0 ≤ j.toInt by omega); omega
  have e0 : s = 0 ↔ s.toInt = 0 := by rw [← Int64.toInt_inj, k0]
  have e1 : s = 1 ↔ s.toInt = 1 := by rw [← Int64.toInt_inj, k1]
  have e2 : j = 1 ↔ j.toInt = 1 := by rw [← Int64.toInt_inj, k1]
  rw [dT]
  unfold f5_0 f5_71
  simp only [e0, e1, e2, Int64.lt_iff_toInt_lt, k2, k3]
  by_cases c0 : s.toInt = 0
  · rw [if_pos c0, c0, Int.zero_mul]; exact ⟨fun _ => by omega, fun q => absurd q (by decide)⟩
  rw [if_neg c0]
  by_cases c1 : n.toInt < s.toInt
  · rw [if_pos c1]; exact ⟨fun q => absurd q (by decide), fun _ => by omega⟩
  rw [if_neg c1]
  by_cases c2 : n.toInt < j.toInt
  · rw [if_pos c2]; have := m2 (by omega); exact ⟨fun q => absurd q (by decide), fun _ => by omega⟩
  rw [if_neg c2]
  by_cases c3 : j.toInt = 1
  · rw [if_pos c3, c3, Int.mul_one]; exact ⟨fun _ => by omega, fun q => absurd q (by decide)⟩
  rw [if_neg c3]
  by_cases c4 : s.toInt = 1
  · rw [if_pos c4, c4, Int.one_mul]; exact ⟨fun _ => by omega, fun q => absurd q (by decide)⟩
  rw [if_neg c4]
  have big : ¬ s.toInt < 4294967296 → ¬ j.toInt < 4294967296 → n.toInt < s.toInt * j.toInt := fun a b => by
    have := Int.mul_le_mul (show (4294967296 : Int) ≤ s.toInt by omega) (show (4294967296 : Int) ≤ j.toInt by omega) (by omega) (by omega); omega
  have tail : ((if s.toInt < 4294967296 then (2 : Int32) else if j.toInt < 4294967296 then 2 else 0) = 1 → ¬ n.toInt < s.toInt * j.toInt) ∧ ((if s.toInt < 4294967296 then (2 : Int32) else if j.toInt < 4294967296 then 2 else 0) = 0 → n.toInt < s.toInt * j.toInt) := by
    by_cases a : s.toInt < 4294967296
    · rw [if_pos a]; exact ⟨fun q => absurd q (by decide), fun q => absurd q (by decide)⟩
    rw [if_neg a]
    by_cases b : j.toInt < 4294967296
    · rw [if_pos b]; exact ⟨fun q => absurd q (by decide), fun q => absurd q (by decide)⟩
    rw [if_neg b]; exact ⟨fun q => absurd q (by decide), fun _ => big a b⟩
  by_cases c5 : s.toInt < 2147483648
  · rw [if_pos c5]
    by_cases c6 : 2147483648 < j.toInt
    · rw [if_pos c6]; exact tail
    rw [if_neg c6]
    have u : s.toInt * j.toInt ≤ 2147483648 * 2147483648 := Int.mul_le_mul (by omega) (by omega) (by omega) (by omega)
    have e : (s * j).toInt = s.toInt * j.toInt := own_lmul (by omega) (by omega)
    rw [e]
    by_cases c7 : n.toInt < s.toInt * j.toInt
    · rw [if_pos c7]; exact ⟨fun q => absurd q (by decide), fun _ => c7⟩
    · rw [if_neg c7]; exact ⟨fun _ => c7, fun q => absurd q (by decide)⟩
  · rw [if_neg c5]; exact tail
theorem own_196 (s j n c : Int64) (hs : 0 ≤ s.toInt) (hj : 1 ≤ j.toInt) (hn : 0 ≤ n.toInt) : f0_196 s j n c = 1 := by
  obtain ⟨h1, h0⟩ := own_f5 s j n hs hj hn
  unfold f0_196 f0_218 f0_244 f0_256 f6_0 f7_0 f4_0 f2_0
  generalize f5_0 s j n = e at *
  by_cases t : n / j < s
  · have q1 : ¬ e = 1 := fun q => h1 q t
    simp only [t, q1, if_true, if_false, ite_self]
  · have q0 : ¬ e = 0 := fun q => t (h0 q)
    simp only [t, q0, if_true, if_false, ite_self, show ¬ (1 : Int32) = 0 by decide]
theorem own_172 (x6 : Int64) (x8 : Int32) (s j n : Int64) (hs : 0 ≤ s.toInt) (hj : 1 ≤ j.toInt) (hn : 0 ≤ n.toInt) : f0_172 x6 x8 s j n = 1 := by
  unfold f0_172; simp only [own_196 _ _ _ _ hs hj hn, ite_self]
theorem own_196a (s j n c : Int64) (hs : 0 ≤ s.toInt) (hj : 1 ≤ j.toInt) (hn : 0 ≤ n.toInt) : f0_196a s j n c = 1 := by
  obtain ⟨h1, h0⟩ := own_f5 s j n hs hj hn
  unfold f0_196a f0_218a f0_244a f0_256a f6_0 f7_0 f4_0 f2_0
  generalize f5_0 s j n = e at *
  by_cases t : n / j < s
  · have q1 : ¬ e = 1 := fun q => h1 q t
    simp only [t, q1, if_true, if_false, ite_self]
  · have q0 : ¬ e = 0 := fun q => t (h0 q)
    simp only [t, q0, if_true, if_false, ite_self, show ¬ (1 : Int32) = 0 by decide]
theorem own_172a (x6 : Int64) (x8 : Int32) (s j n : Int64) (hs : 0 ≤ s.toInt) (hj : 1 ≤ j.toInt) (hn : 0 ≤ n.toInt) : f0_172a x6 x8 s j n = 1 := by
  unfold f0_172a; simp only [own_196a _ _ _ _ hs hj hn, ite_self]
theorem own_93 (x0 x6 : Int64) (x8 x9 : Int32) (s j : Int64) (hs : 0 ≤ s.toInt) (hj : 1 ≤ j.toInt) : f0_93 x0 x6 x8 x9 s j = 1 := by
  unfold f0_93 f0_133 f0_157 f0_162; simp only [own_172a _ _ _ _ _ hs hj (own_max0 _), own_172 _ _ _ _ _ hs hj (own_max _), ite_self]
theorem law_true (x0 x2 x4 x6 : Int64) (x8 : Int32) : f0_0 x0 x2 x4 x6 x8 = 1 := by
  unfold f0_0
  rw [own_93 _ _ _ _ _ _ (own_and31' _).1 (own_add1 _), own_93 _ _ _ _ _ _ (own_max _) (by decide), own_93 _ _ _ _ _ _ (own_max _) (own_max1 _), own_93 _ _ _ _ _ _ (by decide) (own_max1 _)]
  simp only [ite_self]

theorem pn_0 : plainName "com/example/gangway/gangway/policy/ShareLevelTakeWholePinLaw" = true := by first | (simp [plainName, overriddenIn]; done) | decide +kernel
theorem ef_0 (m : MethodId) (x0 : Int64) (x2 : Int64) (x4 : Int64) (x6 : Int64) (x8 : Int32) : entryFrame m #[(.long x0), (.long x2), (.long x4), (.long x6), (.int x8)] maxLocals = (mkF m 0 #[.val (.long x0), .second, .val (.long x2), .second, .val (.long x4), .second, .val (.long x6), .second, .val (.int x8), .unset, .unset, .unset, .unset, .unset, .unset, .unset, .unset, .unset, .unset, .unset, .unset, .unset] []) := by first | (simp [entryFrame, mkF, argsToLocals, Value.category, maxLocals]; done) | rfl
def Qd0 (Z : State) (h0 : Heap) (n0 : Nat) (x0 : Int64) (x2 : Int64) (x4 : Int64) (x6 : Int64) (x8 : Int32) : Option Value → Heap → List Loc → Prop := (fun v h L => v = (some (.int (1 : Int32))) ∧ Fr n0 L)
set_option maxRecDepth 65536 in
set_option maxHeartbeats 40000000 in
theorem rm0 (l : Launch) (Z : State) (a0 : Array Value) (hw : ∀ d ∈ tables_1, d.before a0 Z = true) (ws : List Jvm.Cond) (x0 : Int64) (x2 : Int64) (x4 : Int64) (x6 : Int64) (x8 : Int32) (h0 : Heap) (n0 : Nat) (Z0 : n0 ≤ h0.size) :
    MetFree l x (head1 (Jvm.Cond.code x code maxLocals ret :: ws) room_1) (fun a U => a = #[(.long x0), (.long x2), (.long x4), (.long x6), (.int x8)] ∧ Z.Warmed39 U.vm ∧ U.heap = h0) (fun _ _ _ _ _ => True) (fun _ U o U' => ∃ v L, o = .returned v ∧ (Qd0 Z h0 n0 x0 x2 x4 x6 x8) v U'.heap L ∧ FrameEnd U o U' L room_1.cells room_1.slots) := by
  refine MetFree.of_bodySF (plainFor_of_name pn_0) hisR ?_
  intro p e s m args below meth c s₁ Bd hml0 hP hK
  obtain ⟨rfl, hZ, hh⟩ := hP
  have e0 : s₁.heap = h0 := by rw [← hh, Bd.state]; rfl
  exact OG.cast (ef_0 m x0 x2 x4 x6 x8) (b0_0 Bd.exec hZ hw Bd.bytes hml0 (findClass_of_methodNamed Bd.named) (name_of_methodNamed Bd.named Bd.method).1 Bd.returns Bd.notSynchronized x0 x2 x4 x6 x8 (1 : Int32) (Stand.of_body Bd) e0 (Fr.nil n0) Z0 (law_true _ _ _ _ _))
set_option maxRecDepth 65536 in
set_option maxHeartbeats 40000000 in
theorem comes_1 {Post : Tables → Env → Array Value → State → Outcome → State → Prop} (hpost : ∀ tb e args s v u, (limb_1_1.after args s (.returned v) u = true ∧ limb_1_2.after args s (.returned v) u = true ∧ True) → FrameEnd s (.returned v) u (Jvm.fieldLocs frame_1_writes args s ++ Jvm.arrayLocs frame_1_arrays args s ++ Jvm.staticLocs frame_1_statics s) 16 128 → Post tb e args s (.returned v) u) :
    ArmFor flags0 classFile x code maxLocals ret World_1 tables_1 room_1 Calls_1 rest_1 Pre_1 Post := by
  intro l hfl _ _ p e ha hc hk s m args below hf hA hF happ hP
  obtain ⟨hcalls, hrest, hpre⟩ := hP
  obtain ⟨-, -, -, hnamed, -, -, -, hat⟩ := (Spec.applies_iff hf).mp happ
  obtain ⟨hg, hn⟩ := and_e (Cond.before_iff.mp (show (Jvm.Cond.and given_1 narrow_1).before args s = true from hpre))
  obtain ⟨g0, r0⟩ := and_e hg
  obtain ⟨g1, r1⟩ := and_e r0
  obtain ⟨g2, r2⟩ := and_e r1
  obtain ⟨g3, r3⟩ := and_e r2
  obtain ⟨g4, r4⟩ := and_e r3
  obtain ⟨w0, w1, w2, w3, w4, rfl⟩ : ∃ w0 w1 w2 w3 w4 : Value, args = #[w0, w1, w2, w3, w4] := by
    have hs : args.size = 5 := by simpa [Cond.value, given_1] using g0
    obtain ⟨L⟩ := args
    match L, hs with
    | [w0, w1, w2, w3, w4], _ => exact ⟨w0, w1, w2, w3, w4, rfl⟩
  have hw := fun d (hd : d ∈ tables_1) => atoms_spec (ws := Jvm.Cond.code x code maxLocals ret :: tables_1) hat d (List.mem_cons_of_mem _ hd)
  obtain ⟨i0, ei0⟩ := isL_v g1
  obtain rfl : w0 = (.long i0) := Option.some.inj ei0
  obtain ⟨i1, ei1⟩ := isL_v g2
  obtain rfl : w1 = (.long i1) := Option.some.inj ei1
  obtain ⟨i2, ei2⟩ := isL_v g3
  obtain rfl : w2 = (.long i2) := Option.some.inj ei2
  obtain ⟨i3, ei3⟩ := isL_v g4
  obtain rfl : w3 = (.long i3) := Option.some.inj ei3
  obtain ⟨i4, ei4⟩ := is_v r4
  obtain rfl : w4 = (.int i4) := Option.some.inj ei4
  obtain ⟨n, o, h1, h2, h3, _, L, rfl, ⟨rfl, N⟩, hq⟩ := rm0 l s _ hw tables_1 i0 i1 i2 i3 i4 s.heap s.heap.size (Nat.le_refl _) p e ha hc hk s m _ below hf ((Spec.applies_iff_loose hf).mp happ).1 ⟨rfl, State.Warmed39.refl s, rfl⟩ trivial
  exact ⟨n, _, h1, h2, h3, hpost _ _ _ _ _ _ ⟨Cond.after_iff.mpr rfl, Cond.after_iff.mpr (eq_i res_at (Term.int_eval (1)) rfl), trivial⟩ ⟨hq.1, hq.2.1, (hq.2.2.sift fun y hy => Or.inr (N y hy)).mono (by decide) (by decide)⟩⟩
theorem main_1_1 : Claimed_1_1 := comes_1 fun _ _ _ _ _ _ h hF => ⟨h.1, hF⟩
theorem main_1_2 : Claimed_1_2 := comes_1 fun _ _ _ _ _ _ h hF => ⟨h.2.1, hF⟩
end Jvm.Pilot.@@N@@
namespace Jvm.Pilot.@@N@@
open Jvm Jvm.ClassFile Sem Op Lib Jvm.Free Jvm.Stand Jvm.Pilot.@@N@@.Jvm.D
/-! MADE BY PROGRAM (witnessworld.py) out of the Statement's table words and the real class files: 10 classes; the members and pool entries that the words name. The judged class is class 1, her method 1. -/
namespace start1
open Jvm.ClassFile
def u (s : String) : CpInfo := .utf8 (stringToUtf16 s)
/-- a pool by its gaps: so many unusable entries, then the entry; so many at the end -/
def gap : Nat → List CpInfo → List CpInfo
  | 0, r => r
  | n + 1, r => .unusable :: gap n r
def poolList (es : List (Nat × CpInfo)) (last : Nat) : List CpInfo := es.foldr (fun e r => gap e.1 (e.2 :: r)) (gap last [])
def pool (es : List (Nat × CpInfo)) (last : Nat) : Array CpInfo := ⟨poolList es last⟩
def fileOf (pool : Array CpInfo) (this : Nat) (attrs : Array Attribute := #[]) (ms : Array MethodInfo := #[]) (fl : Nat := 33) (sup : Nat := 0) (ifs : Array Nat := #[]) (fds : Array FieldInfo := #[]) : ClassFile where
  minorVersion := 0
  majorVersion := 65
  constantPool := pool
  accessFlags := fl
  thisClass := this
  superClass := sup
  interfaces := ifs
  fields := fds
  methods := ms
  attributes := attrs
def plain (name : String) (sup : Option ClassId) : Class where
  name := name
  kind := .ordinary
  loader := none
  accessFlags := 33
  super := sup
  interfaces := #[]
  cf := none
  fields := #[]
  methods := #[]
  instanceTypes := #[]
  staticTypes := #[]
  resolved := #[]
  callSites := []
  init := .initialized
  statics := none
  mirror := none

def pool0 : Array CpInfo := pool [(5, u "<init>"), (0, u "()V"), (1, .class_ 10), (1, u "java/lang/Object")] 113

def k0c0 : Code := { maxStack := 0, maxLocals := 1, code := object_method_1_code, exceptionTable := #[], attributes := #[] }
def k0m0 : Method := { name := "<init>", desc := "()V", sig := { parameters := [], returnType := none }, accessFlags := 1, code := some k0c0 }
/-- java/lang/Object -/
def k0 : Class := { plain "java/lang/Object" none with
  accessFlags := 33
  interfaces := #[]
  cf := some (fileOf pool0 8 #[] #[{ accessFlags := 1, nameIndex := 5, descriptorIndex := 6, attributes := #[] }] 33 0 #[] #[])
  fields := #[]
  methods := #[k0m0]
  instanceTypes := #[]
  staticTypes := #[]
  resolved := Array.replicate 124 none
  statics := none }

def pool1 : Array CpInfo := pool [(2, .class_ 4), (1, u "java/lang/Object"), (0, u "<init>"), (0, u "()V"), (0, .long 2147483647), (3, .long 9223372036854775807), (1, .methodref 14 15), (0, .class_ 16), (0, .nameAndType 17 18), (0, u "java/lang/Math"), (0, u "max"), (0, u "(JJ)J"), (0, .long 9223372036854775799), (1, .class_ 22), (0, u "com/example/gangway/gangway/policy/ShareLevel"), (0, .methodref 21 24), (0, .nameAndType 5 25), (0, u "(JJ)V"), (0, .methodref 21 27), (0, .nameAndType 28 29), (0, u "takeWhole"), (0, u "(JJ)Z"), (0, .methodref 31 32), (0, .class_ 33), (0, .nameAndType 34 35), (0, u "com/example/gangway/gangway/policy/ShareLevelTakeWholePinLaw"), (0, u "expected"), (0, u "(JJJ)I"), (0, .methodref 21 37), (0, .nameAndType 38 39), (0, u "nodes"), (0, u "()J"), (0, .methodref 21 41), (0, .nameAndType 42 39), (0, u "jobs"), (0, .long 2147483648), (1, .long 4294967296), (3, u "law"), (0, u "(JJJJI)Z")] 3

def k1m0 : Method := { name := "<init>", desc := "()V", sig := { parameters := [], returnType := none }, accessFlags := 1, code := none }
def k1c1 : Code := { maxStack := 8, maxLocals := 22, code := code, exceptionTable := #[], attributes := #[] }
def k1m1 : Method := { name := "law", desc := "(JJJJI)Z", sig := { parameters := [.long, .long, .long, .long, .int], returnType := some .boolean }, accessFlags := 9, code := some k1c1 }
def k1c2 : Code := { maxStack := 4, maxLocals := 6, code := method_3_code, exceptionTable := #[], attributes := #[] }
def k1m2 : Method := { name := "expected", desc := "(JJJ)I", sig := { parameters := [.long, .long, .long], returnType := some .int }, accessFlags := 10, code := some k1c2 }
/-- com/example/gangway/gangway/policy/ShareLevelTakeWholePinLaw -/
def k1 : Class := { plain "com/example/gangway/gangway/policy/ShareLevelTakeWholePinLaw" (some 0) with
  accessFlags := 49
  interfaces := #[]
  cf := some (fileOf pool1 31 #[] #[{ accessFlags := 1, nameIndex := 5, descriptorIndex := 6, attributes := #[] }, { accessFlags := 9, nameIndex := 49, descriptorIndex := 50, attributes := #[] }, { accessFlags := 10, nameIndex := 34, descriptorIndex := 35, attributes := #[] }] 49 2 #[] #[])
  fields := #[]
  methods := #[k1m0, k1m1, k1m2]
  instanceTypes := #[]
  staticTypes := #[]
  resolved := Array.replicate 54 none
  statics := none }

def pool2 : Array CpInfo := pool [(1, .class_ 2), (0, u "java/lang/Math"), (1, .class_ 6), (1, u "java/lang/Object"), (0, u "<init>"), (0, u "()V"), (89, .class_ 100), (1, u "java/lang/Math$RandomNumberGeneratorHolder"), (20, u "(JJ)J"), (50, u "negativeZeroFloatBits"), (0, u "J"), (2, u "negativeZeroDoubleBits"), (21, u "max"), (46, u "$assertionsDisabled"), (0, u "Z"), (91, u "twoToTheDoubleScaleDown"), (0, u "D"), (4, u "twoToTheDoubleScaleUp"), (9, u "E"), (3, u "PI"), (2, u "TAU"), (2, u "DEGREES_TO_RADIANS"), (0, u "RADIANS_TO_DEGREES")] 94

def k2m0 : Method := { name := "<init>", desc := "()V", sig := { parameters := [], returnType := none }, accessFlags := 2, code := none }
def k2c1 : Code := { maxStack := 4, maxLocals := 4, code := jdk_29_method_66_code, exceptionTable := #[], attributes := #[] }
def k2m1 : Method := { name := "max", desc := "(JJ)J", sig := { parameters := [.long, .long], returnType := some .long }, accessFlags := 9, code := some k2c1 }
/-- java/lang/Math -/
def k2 : Class := { plain "java/lang/Math" (some 0) with
  accessFlags := 49
  interfaces := #[]
  cf := some (fileOf pool2 1 #[.nestMembers #[98]] #[{ accessFlags := 2, nameIndex := 7, descriptorIndex := 8, attributes := #[] }, { accessFlags := 9, nameIndex := 198, descriptorIndex := 121, attributes := #[] }] 49 4 #[] #[{ accessFlags := 25, nameIndex := 354, descriptorIndex := 339, attributes := #[] }, { accessFlags := 25, nameIndex := 358, descriptorIndex := 339, attributes := #[] }, { accessFlags := 25, nameIndex := 361, descriptorIndex := 339, attributes := #[] }, { accessFlags := 26, nameIndex := 364, descriptorIndex := 339, attributes := #[] }, { accessFlags := 26, nameIndex := 365, descriptorIndex := 339, attributes := #[] }, { accessFlags := 26, nameIndex := 172, descriptorIndex := 173, attributes := #[] }, { accessFlags := 26, nameIndex := 176, descriptorIndex := 173, attributes := #[] }, { accessFlags := 8, nameIndex := 344, descriptorIndex := 339, attributes := #[] }, { accessFlags := 8, nameIndex := 338, descriptorIndex := 339, attributes := #[] }, { accessFlags := 4120, nameIndex := 245, descriptorIndex := 246, attributes := #[] }])
  fields := #[{ name := "E", type := .double, accessFlags := 25, slot := 0, constantValue := 0 }, { name := "PI", type := .double, accessFlags := 25, slot := 1, constantValue := 0 }, { name := "TAU", type := .double, accessFlags := 25, slot := 2, constantValue := 0 }, { name := "DEGREES_TO_RADIANS", type := .double, accessFlags := 26, slot := 3, constantValue := 0 }, { name := "RADIANS_TO_DEGREES", type := .double, accessFlags := 26, slot := 4, constantValue := 0 }, { name := "negativeZeroFloatBits", type := .long, accessFlags := 26, slot := 5, constantValue := 0 }, { name := "negativeZeroDoubleBits", type := .long, accessFlags := 26, slot := 6, constantValue := 0 }, { name := "twoToTheDoubleScaleUp", type := .double, accessFlags := 8, slot := 7, constantValue := 0 }, { name := "twoToTheDoubleScaleDown", type := .double, accessFlags := 8, slot := 8, constantValue := 0 }, { name := "$assertionsDisabled", type := .boolean, accessFlags := 4120, slot := 9, constantValue := 0 }]
  methods := #[k2m0, k2m1]
  instanceTypes := #[]
  staticTypes := #[.double, .double, .double, .double, .double, .long, .long, .double, .double, .boolean]
  resolved := Array.replicate 460 none
  statics := none }

def pool3 : Array CpInfo := pool [(1, .methodref 2 3), (0, .class_ 4), (0, .nameAndType 5 6), (0, u "java/lang/Object"), (0, u "<init>"), (0, u "()V"), (0, .fieldref 8 9), (0, .class_ 10), (0, .nameAndType 11 12), (0, u "com/example/gangway/gangway/policy/ShareLevel"), (0, u "nodes"), (0, u "J"), (0, .fieldref 8 14), (0, .nameAndType 15 12), (0, u "jobs"), (0, u "(JJ)V"), (2, u "takeWhole"), (0, u "(JJ)Z"), (1, u "()J")] 2

def k3c0 : Code := { maxStack := 3, maxLocals := 5, code := prog_155_method_1_code, exceptionTable := #[], attributes := #[] }
def k3m0 : Method := { name := "<init>", desc := "(JJ)V", sig := { parameters := [.long, .long], returnType := none }, accessFlags := 0, code := some k3c0 }
def k3c1 : Code := { maxStack := 7, maxLocals := 5, code := prog_155_method_2_code, exceptionTable := #[], attributes := #[] }
def k3m1 : Method := { name := "takeWhole", desc := "(JJ)Z", sig := { parameters := [.long, .long], returnType := some .boolean }, accessFlags := 0, code := some k3c1 }
def k3c2 : Code := { maxStack := 2, maxLocals := 1, code := prog_155_method_3_code, exceptionTable := #[], attributes := #[] }
def k3m2 : Method := { name := "nodes", desc := "()J", sig := { parameters := [], returnType := some .long }, accessFlags := 0, code := some k3c2 }
def k3c3 : Code := { maxStack := 2, maxLocals := 1, code := prog_155_method_4_code, exceptionTable := #[], attributes := #[] }
def k3m3 : Method := { name := "jobs", desc := "()J", sig := { parameters := [], returnType := some .long }, accessFlags := 0, code := some k3c3 }
/-- com/example/gangway/gangway/policy/ShareLevel -/
def k3 : Class := { plain "com/example/gangway/gangway/policy/ShareLevel" (some 0) with
  accessFlags := 48
  interfaces := #[]
  cf := some (fileOf pool3 8 #[] #[{ accessFlags := 0, nameIndex := 5, descriptorIndex := 16, attributes := #[] }, { accessFlags := 0, nameIndex := 19, descriptorIndex := 20, attributes := #[] }, { accessFlags := 0, nameIndex := 11, descriptorIndex := 22, attributes := #[] }, { accessFlags := 0, nameIndex := 15, descriptorIndex := 22, attributes := #[] }] 48 2 #[] #[{ accessFlags := 2, nameIndex := 11, descriptorIndex := 12, attributes := #[] }, { accessFlags := 2, nameIndex := 15, descriptorIndex := 12, attributes := #[] }])
  fields := #[{ name := "nodes", type := .long, accessFlags := 2, slot := 0, constantValue := 0 }, { name := "jobs", type := .long, accessFlags := 2, slot := 1, constantValue := 0 }]
  methods := #[k3m0, k3m1, k3m2, k3m3]
  instanceTypes := #[.long, .long]
  staticTypes := #[]
  resolved := Array.replicate 25 none
  statics := none }

def pool4 : Array CpInfo := pool [(1, u "java/lang/Cloneable"), (0, .class_ 1), (0, u "java/lang/Object"), (0, .class_ 3)] 3

/-- java/lang/Cloneable -/
def k4 : Class := { plain "java/lang/Cloneable" (some 0) with
  accessFlags := 1537
  interfaces := #[]
  cf := some (fileOf pool4 2 #[] #[] 1537 4 #[] #[])
  fields := #[]
  methods := #[]
  instanceTypes := #[]
  staticTypes := #[]
  resolved := Array.replicate 8 none
  statics := none }

def pool5 : Array CpInfo := pool [(1, u "java/io/Serializable"), (0, .class_ 1), (0, u "java/lang/Object"), (0, .class_ 3)] 3

/-- java/io/Serializable -/
def k5 : Class := { plain "java/io/Serializable" (some 0) with
  accessFlags := 1537
  interfaces := #[]
  cf := some (fileOf pool5 2 #[] #[] 1537 4 #[] #[])
  fields := #[]
  methods := #[]
  instanceTypes := #[]
  staticTypes := #[]
  resolved := Array.replicate 8 none
  statics := none }

/-- the primitive byte -/
def k6 : Class := { plain "byte" none with kind := .primitive 'B', accessFlags := 0x411 }
/-- [B -/
def k7 : Class := { plain "[B" (some 0) with kind := .array 6 .byte, interfaces := #[4, 5], accessFlags := 1041 }

/-- the primitive int -/
def k8 : Class := { plain "int" none with kind := .primitive 'I', accessFlags := 0x411 }
/-- [I -/
def k9 : Class := { plain "[I" (some 0) with kind := .array 8 .int, interfaces := #[4, 5], accessFlags := 1041 }

def heap : Heap := #[]
def classes : Array Class := #[k0, k1, k2, k3, k4, k5, k6, k7, k8, k9]
def interned : List (Array UInt16 × Addr) := []
def slotsUsed : Nat := 0
def theMethod : MethodId := ⟨1, 1⟩
def args0 : Array Value := #[.long 5, .long 7, .long 9, .long 11, .int 3]
def aboutOver (below : List Frame) : State where
  vm := { classes := classes, interned := interned.toArray }
  heap := heap
  slotsUsed := slotsUsed
  threads := #[{ frames := .invoking theMethod args0 :: below }]
def below0 : List Frame := [.native { method := ⟨0, 0⟩, args := #[] }]
def about1 : State := aboutOver below0
def p0 : Program := .bare "" "" ""
def e0 : Env := launch0.env 0 0 0
theorem w_frames : about1.frames = Frame.invoking theMethod args0 :: below0 := rfl
set_option maxRecDepth 65536 in
theorem w_args : argsFit about1.vm theMethod args0 = true := by decide +kernel
set_option maxRecDepth 65536 in
theorem w_heap : heapFits about1 = true := by decide +kernel
set_option maxRecDepth 65536 in
theorem w_runnable : about1.curStatus? = some .runnable := by decide +kernel
set_option maxRecDepth 65536 in
theorem w_alone : about1.alone = true := by decide +kernel
set_option maxRecDepth 65536 in
theorem w_named : about1.methodNamed? x = some theMethod := by decide +kernel
set_option maxRecDepth 65536 in
theorem w_hears : about1.hears theMethod below0 = true := by decide +kernel
set_option maxRecDepth 65536 in
theorem w_ripe : about1.ripe theMethod args0 below0 = true := by decide +kernel
theorem w_running : about1.status = .running := rfl
set_option maxRecDepth 65536 in
theorem w_room : about1.hasRoom e0.platform room_1 = true :=
  launch0.hasRoom_least _ room_1 (by decide +kernel) (by decide +kernel) (by decide +kernel) (by decide +kernel) (by decide +kernel) (by decide +kernel)
theorem allAtoms_all (ts : List Jvm.Cond) (a : Array Jvm.Value) (st : Jvm.State) : (allAtoms ts).before a st = ts.all (fun c => c.before a st) := by
  induction ts with
  | nil => rfl
  | cons c t ih =>
    show (Jvm.Cond.and c (allAtoms t)).before a st = _
    rw [Jvm.Cond.before_and, ih, List.all_cons]
def words1 : List Jvm.Cond := Jvm.Cond.code x code maxLocals ret :: tables_1
/-- a 'code' word, met by the world's own term for the bytes: nothing is compared byte by byte -/
theorem code_word {y : MethodName} {bytes : ByteArray} {mx : Nat} {rt : Option FieldType} {a : Array Value} {s : State} {m : MethodId} {meth : Method} {c : Code} (h1 : s.methodNamed? y = some m) (h2 : s.vm.method? m = some meth) (h3 : meth.code = some c) (h4 : c.code = bytes)
    (h5 : (c.maxLocals == mx && c.exceptionTable.isEmpty && decide (c.maxStack ≤ mostOperands) && decide (meth.sig.returnType = rt) && !meth.locks && decide (parseMethodDescriptor y.desc = some meth.sig)) = true) : (Jvm.Cond.code y bytes mx rt).before a s = true := by
  simp only [Bool.and_eq_true, beq_iff_eq, Bool.not_eq_true', decide_eq_true_eq] at h5
  obtain ⟨⟨⟨⟨⟨g1, g2⟩, g3⟩, g4⟩, g5⟩, g6⟩ := h5
  simp [Cond.before, Cond.holds, Cond.value, h1, h2, h3, h4, g1, g2, g3, g4, g5, g6]
def isCode : Jvm.Cond → Bool
  | .code _ _ _ _ => true
  | _ => false
theorem all_split {L : List Jvm.Cond} {P : Jvm.Cond → Bool} (h1 : L.all (fun c => isCode c || P c) = true) (h2 : ∀ c ∈ L.filter isCode, P c = true) : L.all P = true := by
  refine List.all_eq_true.mpr fun c hc => ?_
  have h := List.all_eq_true.mp h1 c hc
  rcases Bool.eq_false_or_eq_true (isCode c) with hi | hi
  · exact h2 c (List.mem_filter.mpr ⟨hc, hi⟩)
  · simpa [hi] using h
set_option maxRecDepth 65536 in
theorem w_c0 : (Jvm.Cond.code x code maxLocals ret).before args0 about1 = true := code_word (m := ⟨1, 1⟩) (meth := k1m1) (c := k1c1) (by decide +kernel) rfl rfl rfl (by decide +kernel)
set_option maxRecDepth 65536 in
theorem w_c1 : (Jvm.Cond.code ({ cls := "java/lang/Math", name := "max", desc := "(JJ)J" } : Jvm.MethodName) jdk_29_method_66_code (4 : Nat) (Option.some Jvm.ClassFile.FieldType.long)).before args0 about1 = true := code_word (m := ⟨2, 1⟩) (meth := k2m1) (c := k2c1) (by decide +kernel) rfl rfl rfl (by decide +kernel)
set_option maxRecDepth 65536 in
theorem w_c2 : (Jvm.Cond.code ({ cls := "com/example/gangway/gangway/policy/ShareLevel", name := "<init>", desc := "(JJ)V" } : Jvm.MethodName) prog_155_method_1_code (5 : Nat) (Option.none : Option Jvm.ClassFile.FieldType)).before args0 about1 = true := code_word (m := ⟨3, 0⟩) (meth := k3m0) (c := k3c0) (by decide +kernel) rfl rfl rfl (by decide +kernel)
set_option maxRecDepth 65536 in
theorem w_c3 : (Jvm.Cond.code ({ cls := "java/lang/Object", name := "<init>", desc := "()V" } : Jvm.MethodName) object_method_1_code (1 : Nat) (Option.none : Option Jvm.ClassFile.FieldType)).before args0 about1 = true := code_word (m := ⟨0, 0⟩) (meth := k0m0) (c := k0c0) (by decide +kernel) rfl rfl rfl (by decide +kernel)
set_option maxRecDepth 65536 in
theorem w_c4 : (Jvm.Cond.code ({ cls := "com/example/gangway/gangway/policy/ShareLevel", name := "takeWhole", desc := "(JJ)Z" } : Jvm.MethodName) prog_155_method_2_code (5 : Nat) (Option.some Jvm.ClassFile.FieldType.boolean)).before args0 about1 = true := code_word (m := ⟨3, 1⟩) (meth := k3m1) (c := k3c1) (by decide +kernel) rfl rfl rfl (by decide +kernel)
set_option maxRecDepth 65536 in
theorem w_c5 : (Jvm.Cond.code ({ cls := "com/example/gangway/gangway/policy/ShareLevelTakeWholePinLaw", name := "expected", desc := "(JJJ)I" } : Jvm.MethodName) method_3_code (6 : Nat) (Option.some Jvm.ClassFile.FieldType.int)).before args0 about1 = true := code_word (m := ⟨1, 2⟩) (meth := k1m2) (c := k1c2) (by decide +kernel) rfl rfl rfl (by decide +kernel)
set_option maxRecDepth 65536 in
theorem w_c6 : (Jvm.Cond.code ({ cls := "com/example/gangway/gangway/policy/ShareLevel", name := "nodes", desc := "()J" } : Jvm.MethodName) prog_155_method_3_code (1 : Nat) (Option.some Jvm.ClassFile.FieldType.long)).before args0 about1 = true := code_word (m := ⟨3, 2⟩) (meth := k3m2) (c := k3c2) (by decide +kernel) rfl rfl rfl (by decide +kernel)
set_option maxRecDepth 65536 in
theorem w_c7 : (Jvm.Cond.code ({ cls := "com/example/gangway/gangway/policy/ShareLevel", name := "jobs", desc := "()J" } : Jvm.MethodName) prog_155_method_4_code (1 : Nat) (Option.some Jvm.ClassFile.FieldType.long)).before args0 about1 = true := code_word (m := ⟨3, 3⟩) (meth := k3m3) (c := k3c3) (by decide +kernel) rfl rfl rfl (by decide +kernel)
def codes1 : List Jvm.Cond := [Jvm.Cond.code x code maxLocals ret, Jvm.Cond.code ({ cls := "java/lang/Math", name := "max", desc := "(JJ)J" } : Jvm.MethodName) jdk_29_method_66_code (4 : Nat) (Option.some Jvm.ClassFile.FieldType.long), Jvm.Cond.code ({ cls := "com/example/gangway/gangway/policy/ShareLevel", name := "<init>", desc := "(JJ)V" } : Jvm.MethodName) prog_155_method_1_code (5 : Nat) (Option.none : Option Jvm.ClassFile.FieldType), Jvm.Cond.code ({ cls := "java/lang/Object", name := "<init>", desc := "()V" } : Jvm.MethodName) object_method_1_code (1 : Nat) (Option.none : Option Jvm.ClassFile.FieldType), Jvm.Cond.code ({ cls := "com/example/gangway/gangway/policy/ShareLevel", name := "takeWhole", desc := "(JJ)Z" } : Jvm.MethodName) prog_155_method_2_code (5 : Nat) (Option.some Jvm.ClassFile.FieldType.boolean), Jvm.Cond.code ({ cls := "com/example/gangway/gangway/policy/ShareLevelTakeWholePinLaw", name := "expected", desc := "(JJJ)I" } : Jvm.MethodName) method_3_code (6 : Nat) (Option.some Jvm.ClassFile.FieldType.int), Jvm.Cond.code ({ cls := "com/example/gangway/gangway/policy/ShareLevel", name := "nodes", desc := "()J" } : Jvm.MethodName) prog_155_method_3_code (1 : Nat) (Option.some Jvm.ClassFile.FieldType.long), Jvm.Cond.code ({ cls := "com/example/gangway/gangway/policy/ShareLevel", name := "jobs", desc := "()J" } : Jvm.MethodName) prog_155_method_4_code (1 : Nat) (Option.some Jvm.ClassFile.FieldType.long)]
set_option maxRecDepth 65536 in
theorem codes_eq : words1.filter isCode = codes1 := rfl
theorem w_codes : ∀ c ∈ words1.filter isCode, c.before args0 about1 = true := by
  rw [codes_eq]
  intro c hc
  simp only [codes1, List.mem_cons, List.not_mem_nil, or_false] at hc
  rcases hc with rfl | rfl | rfl | rfl | rfl | rfl | rfl | rfl
  · exact w_c0
  · exact w_c1
  · exact w_c2
  · exact w_c3
  · exact w_c4
  · exact w_c5
  · exact w_c6
  · exact w_c7
set_option maxRecDepth 65536 in
theorem w_t1 : (words1.take 24).all (fun c => isCode c || c.before args0 about1) = true := by decide +kernel
set_option maxRecDepth 65536 in
theorem w_t2 : (words1.drop 24).all (fun c => isCode c || c.before args0 about1) = true := by decide +kernel
theorem w_tables : (allAtoms (Jvm.Cond.code x code maxLocals ret :: tables_1)).before args0 about1 = true := by
  rw [allAtoms_all]
  show words1.all (fun c => c.before args0 about1) = true
  refine all_split ?_ w_codes
  rw [← List.take_append_drop 24 words1, List.all_append, w_t1, w_t2]
  rfl
set_option maxRecDepth 65536 in
theorem w_case : (Jvm.Cond.and given_1 narrow_1).before args0 about1 = true := by decide +kernel
theorem w_applies : (headSpec (Jvm.Cond.code x code maxLocals ret :: tables_1) room_1).applies x e0.platform about1 = true :=
  (Spec.applies_iff w_frames).mpr ⟨w_running, w_runnable, w_alone, w_named, w_hears, w_ripe, w_room, w_tables⟩
theorem atStart : AtStart classFile x code maxLocals ret World_1 tables_1 room_1 Calls_1 rest_1 Pre_1 launch0 p0 e0 about1 theMethod args0 below0 :=
  ⟨lists_1, trivial, launch0.admits_env _ _ _, launch0.least_env, fairChoices_fair.cas, fairChoices_fair.clock, w_frames, w_args, w_heap, w_applies, trivial, trivial, w_case⟩
end start1
theorem witness_1 : WitnessClaimed_1 := ⟨start1.p0, start1.e0, start1.about1, start1.theMethod, start1.args0, start1.below0, start1.atStart⟩
end Jvm.Pilot.@@N@@
