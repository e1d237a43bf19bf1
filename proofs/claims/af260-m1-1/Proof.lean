import JvmDerived
import JvmDerived.Pilot.@@N@@Statement
import JvmDerived.Pilot.@@N@@Code
set_option linter.unusedVariables false
set_option linter.unusedSimpArgs false
namespace Jvm.RoadKit
open Sem ClassFile Op Lib Jvm.Stand Jvm.Free Jvm.LawKit
section New
variable {p : Program} {l : Launch} {e : Env} {R : Room} {s : State} {m : MethodId} {args : Array Value} {below : List Frame} {meth : Method} {c : Code} {T : State} {locs : List Loc} {cells slots : Nat}
theorem retI (X : Stand p l e R s m args below meth c T locs cells slots) (hx : p.tables.exec = Jvm.exec) {pc : Nat} {Ls : Array Slot} {z : Int32} {rest : List Value} (hret : meth.sig.returnType = some .int) (hd : decode c.code pc = .ok (.ireturn, 1)) {fs : List Frame}
    (hl : ∀ (f : JFrame) (acts : List Action), f.method = m → f.locked = none → f.entered = [] → (doReturn e (T.setTop f) acts (some (.int z))).1 = T.setFrames fs) : Steps p.tables e below (T.setTop (mkF m pc Ls (.int z :: rest))) (T.setFrames fs) := by
  have hm' : T.vm.method? m = some meth := X.method'
  have hn : narrow .int (.int z) = .int z := rfl
  show Steps p.tables e below (T.setTop { method := m, pc := pc, locals := Ls, stack := _ :: rest, locked := none }) _
  jvm_step X.here [X.here.top, hx, hd, hm', hret, hn]
  first | (intro acts; rw [hl _ acts rfl rfl rfl]) | rw [hl _ _ rfl rfl rfl]
  exact Steps.refl _
theorem retJ (X : Stand p l e R s m args below meth c T locs cells slots) (hx : p.tables.exec = Jvm.exec) {pc : Nat} {Ls : Array Slot} {z : Int64} {rest : List Value} (hret : meth.sig.returnType = some .long) (hd : decode c.code pc = .ok (.lreturn, 1)) {fs : List Frame}
    (hl : ∀ (f : JFrame) (acts : List Action), f.method = m → f.locked = none → f.entered = [] → (doReturn e (T.setTop f) acts (some (.long z))).1 = T.setFrames fs) : Steps p.tables e below (T.setTop (mkF m pc Ls (.long z :: rest))) (T.setFrames fs) := by
  have hm' : T.vm.method? m = some meth := X.method'
  have hn : narrow .long (.long z) = .long z := rfl
  show Steps p.tables e below (T.setTop { method := m, pc := pc, locals := Ls, stack := _ :: rest, locked := none }) _
  jvm_step X.here [X.here.top, hx, hd, hm', hret, hn]
  first | (intro acts; rw [hl _ acts rfl rfl rfl]) | rw [hl _ _ rfl rfl rfl]
  exact Steps.refl _
end New
end Jvm.RoadKit
namespace Jvm.Pilot.@@N@@
open Jvm Jvm.ClassFile Sem Op Lib Jvm.Free Jvm.Stand Jvm.LawKit Jvm.RoadKit Bundle Jvm.Pilot.@@N@@.Jvm.D
section Own
variable {p : Program} {l : Launch} {e : Env} {R : Room} {s : State} {m : MethodId} {args : Array Value} {below : List Frame} {meth : Method} {c : Code} {T : State} {locs : List Loc} {cells slots : Nat} {Q : Option Value → Heap → List Loc → Prop} {kc ks : Nat}
/-- from this frame the walk goes to its end, with Q -/
def OG (p : Program) (e : Env) (below : List Frame) (s : State) (Q : Option Value → Heap → List Loc → Prop) (kc ks : Nat) (T : State) (g : JFrame) : Prop :=
  ∃ s₂ o, Steps p.tables e below (T.setTop g) s₂ ∧ s₂.status = .running ∧ Ended s₂ below o ∧ ∃ v L, o = .returned v ∧ Q v s₂.heap L ∧ FrameEnd s o s₂ L kc ks
theorem OG.step {T' : State} {g g' : JFrame} (st : ∀ t, Steps p.tables e below (T'.setTop g') t → Steps p.tables e below (T.setTop g) t) (h : OG p e below s Q kc ks T' g') : OG p e below s Q kc ks T g := by
  obtain ⟨s₂, o, h1, h2⟩ := h
  exact ⟨s₂, o, st _ h1, h2⟩
theorem OG.cast {g g' : JFrame} (q : g = g') (h : OG p e below s Q kc ks T g') : OG p e below s Q kc ks T g := q ▸ h
theorem OG.mono {Q' : Option Value → Heap → List Loc → Prop} {g : JFrame} (hq : ∀ v h L, Q v h L → Q' v h L) (h : OG p e below s Q kc ks T g) : OG p e below s Q' kc ks T g := by
  obtain ⟨s₂, o, h1, h2, h3, v, L, h4, h5, h6⟩ := h
  exact ⟨s₂, o, h1, h2, h3, v, L, h4, hq _ _ _ h5, h6⟩
theorem o_iadd (X : Stand p l e R s m args below meth c T locs cells slots) (hx : p.tables.exec = Jvm.exec) {pc pc' : Nat} {Ls : Array Slot} {x y : Int32} {rest : List Value} (hd : decode c.code pc = .ok (.iadd, 1)) (hp : pc + 1 = pc') (h : OG p e below s Q kc ks T (mkF m pc' Ls (.int (x + y) :: rest))) : OG p e below s Q kc ks T (mkF m pc Ls (.int y :: .int x :: rest)) := by
  subst hp; exact OG.step (fun t q => XS.iadd X.here hx rfl hd rfl q) h
theorem o_isub (X : Stand p l e R s m args below meth c T locs cells slots) (hx : p.tables.exec = Jvm.exec) {pc pc' : Nat} {Ls : Array Slot} {x y : Int32} {rest : List Value} (hd : decode c.code pc = .ok (.isub, 1)) (hp : pc + 1 = pc') (h : OG p e below s Q kc ks T (mkF m pc' Ls (.int (x - y) :: rest))) : OG p e below s Q kc ks T (mkF m pc Ls (.int y :: .int x :: rest)) := by
  subst hp; exact OG.step (fun t q => XS.isub X.here hx rfl hd rfl q) h
theorem o_imul (X : Stand p l e R s m args below meth c T locs cells slots) (hx : p.tables.exec = Jvm.exec) {pc pc' : Nat} {Ls : Array Slot} {x y : Int32} {rest : List Value} (hd : decode c.code pc = .ok (.imul, 1)) (hp : pc + 1 = pc') (h : OG p e below s Q kc ks T (mkF m pc' Ls (.int (x * y) :: rest))) : OG p e below s Q kc ks T (mkF m pc Ls (.int y :: .int x :: rest)) := by
  subst hp; exact OG.step (fun t q => XS.imul X.here hx rfl hd rfl q) h
theorem o_iand (X : Stand p l e R s m args below meth c T locs cells slots) (hx : p.tables.exec = Jvm.exec) {pc pc' : Nat} {Ls : Array Slot} {x y : Int32} {rest : List Value} (hd : decode c.code pc = .ok (.iand, 1)) (hp : pc + 1 = pc') (h : OG p e below s Q kc ks T (mkF m pc' Ls (.int (x &&& y) :: rest))) : OG p e below s Q kc ks T (mkF m pc Ls (.int y :: .int x :: rest)) := by
  subst hp; exact OG.step (fun t q => XS.iand X.here hx rfl hd rfl q) h
theorem o_ior (X : Stand p l e R s m args below meth c T locs cells slots) (hx : p.tables.exec = Jvm.exec) {pc pc' : Nat} {Ls : Array Slot} {x y : Int32} {rest : List Value} (hd : decode c.code pc = .ok (.ior, 1)) (hp : pc + 1 = pc') (h : OG p e below s Q kc ks T (mkF m pc' Ls (.int (x ||| y) :: rest))) : OG p e below s Q kc ks T (mkF m pc Ls (.int y :: .int x :: rest)) := by
  subst hp; exact OG.step (fun t q => XS.ior X.here hx rfl hd rfl q) h
theorem o_ixor (X : Stand p l e R s m args below meth c T locs cells slots) (hx : p.tables.exec = Jvm.exec) {pc pc' : Nat} {Ls : Array Slot} {x y : Int32} {rest : List Value} (hd : decode c.code pc = .ok (.ixor, 1)) (hp : pc + 1 = pc') (h : OG p e below s Q kc ks T (mkF m pc' Ls (.int (x ^^^ y) :: rest))) : OG p e below s Q kc ks T (mkF m pc Ls (.int y :: .int x :: rest)) := by
  subst hp; exact OG.step (fun t q => XS.ixor X.here hx rfl hd rfl q) h
theorem o_ladd (X : Stand p l e R s m args below meth c T locs cells slots) (hx : p.tables.exec = Jvm.exec) {pc pc' : Nat} {Ls : Array Slot} {x y : Int64} {rest : List Value} (hd : decode c.code pc = .ok (.ladd, 1)) (hp : pc + 1 = pc') (h : OG p e below s Q kc ks T (mkF m pc' Ls (.long (x + y) :: rest))) : OG p e below s Q kc ks T (mkF m pc Ls (.long y :: .long x :: rest)) := by
  subst hp; exact OG.step (fun t q => XS.ladd X.here hx rfl hd rfl q) h
theorem o_lsub (X : Stand p l e R s m args below meth c T locs cells slots) (hx : p.tables.exec = Jvm.exec) {pc pc' : Nat} {Ls : Array Slot} {x y : Int64} {rest : List Value} (hd : decode c.code pc = .ok (.lsub, 1)) (hp : pc + 1 = pc') (h : OG p e below s Q kc ks T (mkF m pc' Ls (.long (x - y) :: rest))) : OG p e below s Q kc ks T (mkF m pc Ls (.long y :: .long x :: rest)) := by
  subst hp; exact OG.step (fun t q => XS.lsub X.here hx rfl hd rfl q) h
theorem o_lmul (X : Stand p l e R s m args below meth c T locs cells slots) (hx : p.tables.exec = Jvm.exec) {pc pc' : Nat} {Ls : Array Slot} {x y : Int64} {rest : List Value} (hd : decode c.code pc = .ok (.lmul, 1)) (hp : pc + 1 = pc') (h : OG p e below s Q kc ks T (mkF m pc' Ls (.long (x * y) :: rest))) : OG p e below s Q kc ks T (mkF m pc Ls (.long y :: .long x :: rest)) := by
  subst hp; exact OG.step (fun t q => XS.lmul X.here hx rfl hd rfl q) h
theorem o_land (X : Stand p l e R s m args below meth c T locs cells slots) (hx : p.tables.exec = Jvm.exec) {pc pc' : Nat} {Ls : Array Slot} {x y : Int64} {rest : List Value} (hd : decode c.code pc = .ok (.land, 1)) (hp : pc + 1 = pc') (h : OG p e below s Q kc ks T (mkF m pc' Ls (.long (x &&& y) :: rest))) : OG p e below s Q kc ks T (mkF m pc Ls (.long y :: .long x :: rest)) := by
  subst hp; exact OG.step (fun t q => XS.land X.here hx rfl hd rfl q) h
theorem o_lor (X : Stand p l e R s m args below meth c T locs cells slots) (hx : p.tables.exec = Jvm.exec) {pc pc' : Nat} {Ls : Array Slot} {x y : Int64} {rest : List Value} (hd : decode c.code pc = .ok (.lor, 1)) (hp : pc + 1 = pc') (h : OG p e below s Q kc ks T (mkF m pc' Ls (.long (x ||| y) :: rest))) : OG p e below s Q kc ks T (mkF m pc Ls (.long y :: .long x :: rest)) := by
  subst hp; exact OG.step (fun t q => XS.lor X.here hx rfl hd rfl q) h
theorem o_lxor (X : Stand p l e R s m args below meth c T locs cells slots) (hx : p.tables.exec = Jvm.exec) {pc pc' : Nat} {Ls : Array Slot} {x y : Int64} {rest : List Value} (hd : decode c.code pc = .ok (.lxor, 1)) (hp : pc + 1 = pc') (h : OG p e below s Q kc ks T (mkF m pc' Ls (.long (x ^^^ y) :: rest))) : OG p e below s Q kc ks T (mkF m pc Ls (.long y :: .long x :: rest)) := by
  subst hp; exact OG.step (fun t q => XS.lxor X.here hx rfl hd rfl q) h
theorem o_ishl (X : Stand p l e R s m args below meth c T locs cells slots) (hx : p.tables.exec = Jvm.exec) {pc pc' : Nat} {Ls : Array Slot} {x y : Int32} {rest : List Value} (hd : decode c.code pc = .ok (.ishl, 1)) (hp : pc + 1 = pc') (h : OG p e below s Q kc ks T (mkF m pc' Ls (.int (x <<< (y &&& 31)) :: rest))) : OG p e below s Q kc ks T (mkF m pc Ls (.int y :: .int x :: rest)) := by
  subst hp; exact OG.step (fun t q => XS.ishl X.here hx rfl hd rfl q) h
theorem o_ishr (X : Stand p l e R s m args below meth c T locs cells slots) (hx : p.tables.exec = Jvm.exec) {pc pc' : Nat} {Ls : Array Slot} {x y : Int32} {rest : List Value} (hd : decode c.code pc = .ok (.ishr, 1)) (hp : pc + 1 = pc') (h : OG p e below s Q kc ks T (mkF m pc' Ls (.int (x >>> (y &&& 31)) :: rest))) : OG p e below s Q kc ks T (mkF m pc Ls (.int y :: .int x :: rest)) := by
  subst hp; exact OG.step (fun t q => XS.ishr X.here hx rfl hd rfl q) h
theorem o_iushr (X : Stand p l e R s m args below meth c T locs cells slots) (hx : p.tables.exec = Jvm.exec) {pc pc' : Nat} {Ls : Array Slot} {x y : Int32} {rest : List Value} (hd : decode c.code pc = .ok (.iushr, 1)) (hp : pc + 1 = pc') (h : OG p e below s Q kc ks T (mkF m pc' Ls (.int ((x.toUInt32 >>> (y &&& 31).toUInt32).toInt32) :: rest))) : OG p e below s Q kc ks T (mkF m pc Ls (.int y :: .int x :: rest)) := by
  subst hp; exact OG.step (fun t q => XS.iushr X.here hx rfl hd rfl q) h
theorem o_lshl (X : Stand p l e R s m args below meth c T locs cells slots) (hx : p.tables.exec = Jvm.exec) {pc pc' : Nat} {Ls : Array Slot} {x : Int64} {y : Int32} {rest : List Value} (hd : decode c.code pc = .ok (.lshl, 1)) (hp : pc + 1 = pc') (h : OG p e below s Q kc ks T (mkF m pc' Ls (.long (x <<< (y &&& 0x3f).toInt64) :: rest))) : OG p e below s Q kc ks T (mkF m pc Ls (.int y :: .long x :: rest)) := by
  subst hp; exact OG.step (fun t q => XS.lshl X.here hx rfl hd rfl q) h
theorem o_lshr (X : Stand p l e R s m args below meth c T locs cells slots) (hx : p.tables.exec = Jvm.exec) {pc pc' : Nat} {Ls : Array Slot} {x : Int64} {y : Int32} {rest : List Value} (hd : decode c.code pc = .ok (.lshr, 1)) (hp : pc + 1 = pc') (h : OG p e below s Q kc ks T (mkF m pc' Ls (.long (x >>> (y &&& 0x3f).toInt64) :: rest))) : OG p e below s Q kc ks T (mkF m pc Ls (.int y :: .long x :: rest)) := by
  subst hp; exact OG.step (fun t q => XS.lshr X.here hx rfl hd rfl q) h
theorem o_lushr (X : Stand p l e R s m args below meth c T locs cells slots) (hx : p.tables.exec = Jvm.exec) {pc pc' : Nat} {Ls : Array Slot} {x : Int64} {y : Int32} {rest : List Value} (hd : decode c.code pc = .ok (.lushr, 1)) (hp : pc + 1 = pc') (h : OG p e below s Q kc ks T (mkF m pc' Ls (.long ((x.toUInt64 >>> (y &&& 0x3f).toInt64.toUInt64).toInt64) :: rest))) : OG p e below s Q kc ks T (mkF m pc Ls (.int y :: .long x :: rest)) := by
  subst hp; exact OG.step (fun t q => XS.lushr X.here hx rfl hd rfl q) h
theorem o_idiv (X : Stand p l e R s m args below meth c T locs cells slots) (hx : p.tables.exec = Jvm.exec) {pc pc' : Nat} {Ls : Array Slot} {x y : Int32} {rest : List Value} (hd : decode c.code pc = .ok (.idiv, 1)) (hy : y ≠ 0) (hp : pc + 1 = pc') (h : OG p e below s Q kc ks T (mkF m pc' Ls (.int (x / y) :: rest))) : OG p e below s Q kc ks T (mkF m pc Ls (.int y :: .int x :: rest)) := by
  subst hp; exact OG.step (fun t q => XS.idiv X.here hx rfl hd rfl hy q) h
theorem o_ldiv (X : Stand p l e R s m args below meth c T locs cells slots) (hx : p.tables.exec = Jvm.exec) {pc pc' : Nat} {Ls : Array Slot} {x y : Int64} {rest : List Value} (hd : decode c.code pc = .ok (.ldiv, 1)) (hy : y ≠ 0) (hp : pc + 1 = pc') (h : OG p e below s Q kc ks T (mkF m pc' Ls (.long (x / y) :: rest))) : OG p e below s Q kc ks T (mkF m pc Ls (.long y :: .long x :: rest)) := by
  subst hp; exact OG.step (fun t q => XS.ldiv X.here hx rfl hd rfl hy q) h
theorem o_irem (X : Stand p l e R s m args below meth c T locs cells slots) (hx : p.tables.exec = Jvm.exec) {pc pc' : Nat} {Ls : Array Slot} {x y : Int32} {rest : List Value} (hd : decode c.code pc = .ok (.irem, 1)) (hy : y ≠ 0) (hp : pc + 1 = pc') (h : OG p e below s Q kc ks T (mkF m pc' Ls (.int (x % y) :: rest))) : OG p e below s Q kc ks T (mkF m pc Ls (.int y :: .int x :: rest)) := by
  subst hp; exact OG.step (fun t q => iremM X hx rfl hd rfl hy q) h
theorem o_lrem (X : Stand p l e R s m args below meth c T locs cells slots) (hx : p.tables.exec = Jvm.exec) {pc pc' : Nat} {Ls : Array Slot} {x y : Int64} {rest : List Value} (hd : decode c.code pc = .ok (.lrem, 1)) (hy : y ≠ 0) (hp : pc + 1 = pc') (h : OG p e below s Q kc ks T (mkF m pc' Ls (.long (x % y) :: rest))) : OG p e below s Q kc ks T (mkF m pc Ls (.long y :: .long x :: rest)) := by
  subst hp; rw [← lrem_mod] at h; exact OG.step (fun t q => XS.lrem X.here hx rfl hd rfl hy q) h
theorem o_ineg (X : Stand p l e R s m args below meth c T locs cells slots) (hx : p.tables.exec = Jvm.exec) {pc pc' : Nat} {Ls : Array Slot} {x : Int32} {rest : List Value} (hd : decode c.code pc = .ok (.ineg, 1)) (hp : pc + 1 = pc') (h : OG p e below s Q kc ks T (mkF m pc' Ls (.int ((-x)) :: rest))) : OG p e below s Q kc ks T (mkF m pc Ls (.int x :: rest)) := by
  subst hp; exact OG.step (fun t q => XS.ineg X.here hx rfl hd rfl q) h
theorem o_lneg (X : Stand p l e R s m args below meth c T locs cells slots) (hx : p.tables.exec = Jvm.exec) {pc pc' : Nat} {Ls : Array Slot} {x : Int64} {rest : List Value} (hd : decode c.code pc = .ok (.lneg, 1)) (hp : pc + 1 = pc') (h : OG p e below s Q kc ks T (mkF m pc' Ls (.long ((-x)) :: rest))) : OG p e below s Q kc ks T (mkF m pc Ls (.long x :: rest)) := by
  subst hp; exact OG.step (fun t q => XS.lneg X.here hx rfl hd rfl q) h
theorem o_i2l (X : Stand p l e R s m args below meth c T locs cells slots) (hx : p.tables.exec = Jvm.exec) {pc pc' : Nat} {Ls : Array Slot} {x : Int32} {rest : List Value} (hd : decode c.code pc = .ok (.i2l, 1)) (hp : pc + 1 = pc') (h : OG p e below s Q kc ks T (mkF m pc' Ls (.long (x.toInt64) :: rest))) : OG p e below s Q kc ks T (mkF m pc Ls (.int x :: rest)) := by
  subst hp; exact OG.step (fun t q => XS.i2l X.here hx rfl hd rfl q) h
theorem o_l2i (X : Stand p l e R s m args below meth c T locs cells slots) (hx : p.tables.exec = Jvm.exec) {pc pc' : Nat} {Ls : Array Slot} {x : Int64} {rest : List Value} (hd : decode c.code pc = .ok (.l2i, 1)) (hp : pc + 1 = pc') (h : OG p e below s Q kc ks T (mkF m pc' Ls (.int (x.toInt32) :: rest))) : OG p e below s Q kc ks T (mkF m pc Ls (.long x :: rest)) := by
  subst hp; exact OG.step (fun t q => XS.l2i X.here hx rfl hd rfl q) h
theorem o_i2b (X : Stand p l e R s m args below meth c T locs cells slots) (hx : p.tables.exec = Jvm.exec) {pc pc' : Nat} {Ls : Array Slot} {x : Int32} {rest : List Value} (hd : decode c.code pc = .ok (.i2b, 1)) (hp : pc + 1 = pc') (h : OG p e below s Q kc ks T (mkF m pc' Ls (.int (x.toInt8.toInt32) :: rest))) : OG p e below s Q kc ks T (mkF m pc Ls (.int x :: rest)) := by
  subst hp; exact OG.step (fun t q => XS.i2b X.here hx rfl hd rfl q) h
theorem o_i2c (X : Stand p l e R s m args below meth c T locs cells slots) (hx : p.tables.exec = Jvm.exec) {pc pc' : Nat} {Ls : Array Slot} {x : Int32} {rest : List Value} (hd : decode c.code pc = .ok (.i2c, 1)) (hp : pc + 1 = pc') (h : OG p e below s Q kc ks T (mkF m pc' Ls (.int (x.toUInt32.toUInt16.toUInt32.toInt32) :: rest))) : OG p e below s Q kc ks T (mkF m pc Ls (.int x :: rest)) := by
  subst hp; exact OG.step (fun t q => XS.i2c X.here hx rfl hd rfl q) h
theorem o_i2s (X : Stand p l e R s m args below meth c T locs cells slots) (hx : p.tables.exec = Jvm.exec) {pc pc' : Nat} {Ls : Array Slot} {x : Int32} {rest : List Value} (hd : decode c.code pc = .ok (.i2s, 1)) (hp : pc + 1 = pc') (h : OG p e below s Q kc ks T (mkF m pc' Ls (.int (x.toInt16.toInt32) :: rest))) : OG p e below s Q kc ks T (mkF m pc Ls (.int x :: rest)) := by
  subst hp; exact OG.step (fun t q => XS.i2s X.here hx rfl hd rfl q) h
theorem o_lcmp (X : Stand p l e R s m args below meth c T locs cells slots) (hx : p.tables.exec = Jvm.exec) {pc pc' : Nat} {Ls : Array Slot} {x y : Int64} {rest : List Value} (hd : decode c.code pc = .ok (.lcmp, 1)) (hp : pc + 1 = pc') (h : OG p e below s Q kc ks T (mkF m pc' Ls (.int (lcmpW x y) :: rest))) : OG p e below s Q kc ks T (mkF m pc Ls (.long y :: .long x :: rest)) := by
  subst hp; exact OG.step (fun t q => XS.lcmp X.here hx rfl hd rfl q) h
theorem o_iconst (X : Stand p l e R s m args below meth c T locs cells slots) (hx : p.tables.exec = Jvm.exec) {pc pc' : Nat} {Ls : Array Slot} {i : Int} {rest : List Value} (hd : decode c.code pc = .ok (.iconst i, 1)) (w : Int32) (hv : Int32.ofInt i = w) (hp : pc + 1 = pc') (h : OG p e below s Q kc ks T (mkF m pc' Ls (.int w :: rest))) : OG p e below s Q kc ks T (mkF m pc Ls (rest)) := by
  subst hp hv; exact OG.step (fun t q => XS.iconst X.here hx rfl hd q) h
theorem o_bipush (X : Stand p l e R s m args below meth c T locs cells slots) (hx : p.tables.exec = Jvm.exec) {pc pc' : Nat} {Ls : Array Slot} {i : Int} {rest : List Value} (hd : decode c.code pc = .ok (.bipush i, 2)) (w : Int32) (hv : (Int8.ofInt i).toInt32 = w) (hp : pc + 2 = pc') (h : OG p e below s Q kc ks T (mkF m pc' Ls (.int w :: rest))) : OG p e below s Q kc ks T (mkF m pc Ls (rest)) := by
  subst hp hv; exact OG.step (fun t q => XS.bipush X.here hx rfl hd q) h
theorem o_sipush (X : Stand p l e R s m args below meth c T locs cells slots) (hx : p.tables.exec = Jvm.exec) {pc pc' : Nat} {Ls : Array Slot} {i : Int} {rest : List Value} (hd : decode c.code pc = .ok (.sipush i, 3)) (w : Int32) (hv : (Int16.ofInt i).toInt32 = w) (hp : pc + 3 = pc') (h : OG p e below s Q kc ks T (mkF m pc' Ls (.int w :: rest))) : OG p e below s Q kc ks T (mkF m pc Ls (rest)) := by
  subst hp hv; exact OG.step (fun t q => XS.sipush X.here hx rfl hd q) h
theorem o_lconst (X : Stand p l e R s m args below meth c T locs cells slots) (hx : p.tables.exec = Jvm.exec) {pc pc' : Nat} {Ls : Array Slot} {i : Fin 2} {rest : List Value} (hd : decode c.code pc = .ok (.lconst i, 1)) (w : Int64) (hv : Int64.ofNat i = w) (hp : pc + 1 = pc') (h : OG p e below s Q kc ks T (mkF m pc' Ls (.long w :: rest))) : OG p e below s Q kc ks T (mkF m pc Ls (rest)) := by
  subst hp hv; exact OG.step (fun t q => XS.lconst X.here hx rfl hd q) h
theorem o_aconst_null (X : Stand p l e R s m args below meth c T locs cells slots) (hx : p.tables.exec = Jvm.exec) {pc pc' : Nat} {Ls : Array Slot} {rest : List Value} (hd : decode c.code pc = .ok (.aconst_null, 1)) (hp : pc + 1 = pc') (h : OG p e below s Q kc ks T (mkF m pc' Ls (.null :: rest))) : OG p e below s Q kc ks T (mkF m pc Ls (rest)) := by
  subst hp; exact OG.step (fun t q => XS.aconstNull X.here hx rfl hd q) h
theorem o_iload_n (X : Stand p l e R s m args below meth c T locs cells slots) (hx : p.tables.exec = Jvm.exec) {pc pc' : Nat} {Ls : Array Slot} {i : Fin 4} {x : Int32} {rest : List Value} (hd : decode c.code pc = .ok (.iload_n i, 1)) (hl : Ls[i.val]? = some (.val (.int x))) (hp : pc + 1 = pc') (h : OG p e below s Q kc ks T (mkF m pc' Ls (.int x :: rest))) : OG p e below s Q kc ks T (mkF m pc Ls (rest)) := by
  subst hp; exact OG.step (fun t q => XS.iloadN X.here hx rfl hd hl q) h
theorem o_iload (X : Stand p l e R s m args below meth c T locs cells slots) (hx : p.tables.exec = Jvm.exec) {pc pc' : Nat} {Ls : Array Slot} {i : Nat} {x : Int32} {rest : List Value} (hd : decode c.code pc = .ok (.iload i, 2)) (hl : Ls[i]? = some (.val (.int x))) (hp : pc + 2 = pc') (h : OG p e below s Q kc ks T (mkF m pc' Ls (.int x :: rest))) : OG p e below s Q kc ks T (mkF m pc Ls (rest)) := by
  subst hp; exact OG.step (fun t q => XS.iload X.here hx rfl hd hl q) h
theorem o_lload_n (X : Stand p l e R s m args below meth c T locs cells slots) (hx : p.tables.exec = Jvm.exec) {pc pc' : Nat} {Ls : Array Slot} {i : Fin 4} {x : Int64} {rest : List Value} (hd : decode c.code pc = .ok (.lload_n i, 1)) (hl : Ls[i.val]? = some (.val (.long x))) (hp : pc + 1 = pc') (h : OG p e below s Q kc ks T (mkF m pc' Ls (.long x :: rest))) : OG p e below s Q kc ks T (mkF m pc Ls (rest)) := by
  subst hp; exact OG.step (fun t q => XS.lloadN X.here hx rfl hd hl q) h
theorem o_lload (X : Stand p l e R s m args below meth c T locs cells slots) (hx : p.tables.exec = Jvm.exec) {pc pc' : Nat} {Ls : Array Slot} {i : Nat} {x : Int64} {rest : List Value} (hd : decode c.code pc = .ok (.lload i, 2)) (hl : Ls[i]? = some (.val (.long x))) (hp : pc + 2 = pc') (h : OG p e below s Q kc ks T (mkF m pc' Ls (.long x :: rest))) : OG p e below s Q kc ks T (mkF m pc Ls (rest)) := by
  subst hp; exact OG.step (fun t q => XS.lload X.here hx rfl hd hl q) h
theorem o_aload_n (X : Stand p l e R s m args below meth c T locs cells slots) (hx : p.tables.exec = Jvm.exec) {pc pc' : Nat} {Ls : Array Slot} {i : Fin 4} {x : Value} {rest : List Value} (hd : decode c.code pc = .ok (.aload_n i, 1)) (hl : Ls[i.val]? = some (.val x)) (hv : x.isRef = true) (hp : pc + 1 = pc') (h : OG p e below s Q kc ks T (mkF m pc' Ls (x :: rest))) : OG p e below s Q kc ks T (mkF m pc Ls (rest)) := by
  subst hp; exact OG.step (fun t q => XS.aloadN X.here hx rfl hd hl hv q) h
theorem o_aload (X : Stand p l e R s m args below meth c T locs cells slots) (hx : p.tables.exec = Jvm.exec) {pc pc' : Nat} {Ls : Array Slot} {i : Nat} {x : Value} {rest : List Value} (hd : decode c.code pc = .ok (.aload i, 2)) (hl : Ls[i]? = some (.val x)) (hv : x.isRef = true) (hp : pc + 2 = pc') (h : OG p e below s Q kc ks T (mkF m pc' Ls (x :: rest))) : OG p e below s Q kc ks T (mkF m pc Ls (rest)) := by
  subst hp; exact OG.step (fun t q => XS.aload X.here hx rfl hd hl hv q) h
theorem o_istore_n (X : Stand p l e R s m args below meth c T locs cells slots) (hx : p.tables.exec = Jvm.exec) {pc pc' : Nat} {Ls : Array Slot} {i : Fin 4} {x : Int32} {rest : List Value} (hd : decode c.code pc = .ok (.istore_n i, 1)) (l' : Array Slot) (hl : storeLocals Ls i.val (.int x) = some l') (hp : pc + 1 = pc') (h : OG p e below s Q kc ks T (mkF m pc' l' (rest))) : OG p e below s Q kc ks T (mkF m pc Ls (.int x :: rest)) := by
  subst hp; exact OG.step (fun t q => XS.istoreN X.here hx rfl hd rfl hl q) h
theorem o_istore (X : Stand p l e R s m args below meth c T locs cells slots) (hx : p.tables.exec = Jvm.exec) {pc pc' : Nat} {Ls : Array Slot} {i : Nat} {x : Int32} {rest : List Value} (hd : decode c.code pc = .ok (.istore i, 2)) (l' : Array Slot) (hl : storeLocals Ls i (.int x) = some l') (hp : pc + 2 = pc') (h : OG p e below s Q kc ks T (mkF m pc' l' (rest))) : OG p e below s Q kc ks T (mkF m pc Ls (.int x :: rest)) := by
  subst hp; exact OG.step (fun t q => XS.istore X.here hx rfl hd rfl hl q) h
theorem o_lstore_n (X : Stand p l e R s m args below meth c T locs cells slots) (hx : p.tables.exec = Jvm.exec) {pc pc' : Nat} {Ls : Array Slot} {i : Fin 4} {x : Int64} {rest : List Value} (hd : decode c.code pc = .ok (.lstore_n i, 1)) (l' : Array Slot) (hl : storeLocals Ls i.val (.long x) = some l') (hp : pc + 1 = pc') (h : OG p e below s Q kc ks T (mkF m pc' l' (rest))) : OG p e below s Q kc ks T (mkF m pc Ls (.long x :: rest)) := by
  subst hp; exact OG.step (fun t q => XS.lstoreN X.here hx rfl hd rfl hl q) h
theorem o_lstore (X : Stand p l e R s m args below meth c T locs cells slots) (hx : p.tables.exec = Jvm.exec) {pc pc' : Nat} {Ls : Array Slot} {i : Nat} {x : Int64} {rest : List Value} (hd : decode c.code pc = .ok (.lstore i, 2)) (l' : Array Slot) (hl : storeLocals Ls i (.long x) = some l') (hp : pc + 2 = pc') (h : OG p e below s Q kc ks T (mkF m pc' l' (rest))) : OG p e below s Q kc ks T (mkF m pc Ls (.long x :: rest)) := by
  subst hp; exact OG.step (fun t q => XS.lstore X.here hx rfl hd rfl hl q) h
theorem o_astore_n (X : Stand p l e R s m args below meth c T locs cells slots) (hx : p.tables.exec = Jvm.exec) {pc pc' : Nat} {Ls : Array Slot} {i : Fin 4} {x : Value} {rest : List Value} (hd : decode c.code pc = .ok (.astore_n i, 1)) (hv : x.isRef = true) (l' : Array Slot) (hl : storeLocals Ls i.val x = some l') (hp : pc + 1 = pc') (h : OG p e below s Q kc ks T (mkF m pc' l' (rest))) : OG p e below s Q kc ks T (mkF m pc Ls (x :: rest)) := by
  subst hp; exact OG.step (fun t q => XS.astoreN X.here hx rfl hd rfl hv hl q) h
theorem o_astore (X : Stand p l e R s m args below meth c T locs cells slots) (hx : p.tables.exec = Jvm.exec) {pc pc' : Nat} {Ls : Array Slot} {i : Nat} {x : Value} {rest : List Value} (hd : decode c.code pc = .ok (.astore i, 2)) (hv : x.isRef = true) (l' : Array Slot) (hl : storeLocals Ls i x = some l') (hp : pc + 2 = pc') (h : OG p e below s Q kc ks T (mkF m pc' l' (rest))) : OG p e below s Q kc ks T (mkF m pc Ls (x :: rest)) := by
  subst hp; exact OG.step (fun t q => XS.astore X.here hx rfl hd rfl hv hl q) h
theorem o_iinc (X : Stand p l e R s m args below meth c T locs cells slots) (hx : p.tables.exec = Jvm.exec) {pc pc' : Nat} {Ls : Array Slot} {i : Nat} {k : Int} {x : Int32} {rest : List Value} (hd : decode c.code pc = .ok (.iinc i k, 3)) (w : Int32) (hw' : Int32.ofInt k = w) (hl : Ls[i]? = some (.val (.int x))) (l' : Array Slot) (hl' : storeLocals Ls i (.int (x + w)) = some l') (hp : pc + 3 = pc') (h : OG p e below s Q kc ks T (mkF m pc' l' (rest))) : OG p e below s Q kc ks T (mkF m pc Ls (rest)) := by
  subst hp hw'; exact OG.step (fun t q => XS.iinc X.here hx rfl hd hl hl' q) h
theorem o_dup (X : Stand p l e R s m args below meth c T locs cells slots) (hx : p.tables.exec = Jvm.exec) {pc pc' : Nat} {Ls : Array Slot} {x : Value} {rest : List Value} (hd : decode c.code pc = .ok (.dup, 1)) (hc : x.category = 1) (hp : pc + 1 = pc') (h : OG p e below s Q kc ks T (mkF m pc' Ls (x :: x :: rest))) : OG p e below s Q kc ks T (mkF m pc Ls (x :: rest)) := by
  subst hp; exact OG.step (fun t q => XS.dup X.here hx rfl hd rfl hc q) h
theorem o_pop (X : Stand p l e R s m args below meth c T locs cells slots) (hx : p.tables.exec = Jvm.exec) {pc pc' : Nat} {Ls : Array Slot} {x : Value} {rest : List Value} (hd : decode c.code pc = .ok (.pop, 1)) (hc : x.category = 1) (hp : pc + 1 = pc') (h : OG p e below s Q kc ks T (mkF m pc' Ls (rest))) : OG p e below s Q kc ks T (mkF m pc Ls (x :: rest)) := by
  subst hp; exact OG.step (fun t q => XS.pop X.here hx rfl hd rfl hc q) h
theorem o_dup_x1 (X : Stand p l e R s m args below meth c T locs cells slots) (hx : p.tables.exec = Jvm.exec) {pc pc' : Nat} {Ls : Array Slot} {x y : Value} {rest : List Value} (hd : decode c.code pc = .ok (.dup_x1, 1)) (hc : x.category = 1) (hc2 : y.category = 1) (hp : pc + 1 = pc') (h : OG p e below s Q kc ks T (mkF m pc' Ls (x :: y :: x :: rest))) : OG p e below s Q kc ks T (mkF m pc Ls (x :: y :: rest)) := by
  subst hp; exact OG.step (fun t q => XS.dupX1 X.here hx rfl hd rfl hc hc2 q) h
theorem o_goto (X : Stand p l e R s m args below meth c T locs cells slots) (hx : p.tables.exec = Jvm.exec) {pc pc' : Nat} {Ls : Array Slot} {rest : List Value} {o : Int} (hd : decode c.code pc = .ok (.goto o, 3)) (ho : 0 ≤ (pc : Int) + o) (hp : ((pc : Int) + o).toNat = pc') (h : OG p e below s Q kc ks T (mkF m pc' Ls rest)) : OG p e below s Q kc ks T (mkF m pc Ls rest) :=
  OG.step (fun t q => XS.goto X.here hx rfl rfl hd ho hp q) h
theorem o_ifYes (X : Stand p l e R s m args below meth c T locs cells slots) (hx : p.tables.exec = Jvm.exec) {pc pc' : Nat} {Ls : Array Slot} {rest : List Value} {o : Int} {cd : ClassFile.Cond} {x : Int32} (hd : decode c.code pc = .ok (.ifCond cd o, 3)) (hc : ifCond.holds cd x = true) (ho : 0 ≤ (pc : Int) + o) (hp : ((pc : Int) + o).toNat = pc') (h : OG p e below s Q kc ks T (mkF m pc' Ls rest)) : OG p e below s Q kc ks T (mkF m pc Ls (.int x :: rest)) :=
  OG.step (fun t q => XS.ifYes X.here hx rfl rfl hd rfl hc ho hp q) h
theorem o_ifNo (X : Stand p l e R s m args below meth c T locs cells slots) (hx : p.tables.exec = Jvm.exec) {pc pc' : Nat} {Ls : Array Slot} {rest : List Value} {o : Int} {cd : ClassFile.Cond} {x : Int32} (hd : decode c.code pc = .ok (.ifCond cd o, 3)) (hc : ifCond.holds cd x = false) (hp : pc + 3 = pc') (h : OG p e below s Q kc ks T (mkF m pc' Ls rest)) : OG p e below s Q kc ks T (mkF m pc Ls (.int x :: rest)) := by
  subst hp; exact OG.step (fun t q => XS.ifNo X.here hx rfl hd rfl hc q) h
theorem o_icmpYes (X : Stand p l e R s m args below meth c T locs cells slots) (hx : p.tables.exec = Jvm.exec) {pc pc' : Nat} {Ls : Array Slot} {rest : List Value} {o : Int} {cd : ClassFile.Cond} {x y : Int32} (hd : decode c.code pc = .ok (.if_icmp cd o, 3)) (hc : if_icmp.holds cd x y = true) (ho : 0 ≤ (pc : Int) + o) (hp : ((pc : Int) + o).toNat = pc') (h : OG p e below s Q kc ks T (mkF m pc' Ls rest)) : OG p e below s Q kc ks T (mkF m pc Ls (.int y :: .int x :: rest)) :=
  OG.step (fun t q => XS.icmpYes X.here hx rfl rfl hd rfl hc ho hp q) h
theorem o_icmpNo (X : Stand p l e R s m args below meth c T locs cells slots) (hx : p.tables.exec = Jvm.exec) {pc pc' : Nat} {Ls : Array Slot} {rest : List Value} {o : Int} {cd : ClassFile.Cond} {x y : Int32} (hd : decode c.code pc = .ok (.if_icmp cd o, 3)) (hc : if_icmp.holds cd x y = false) (hp : pc + 3 = pc') (h : OG p e below s Q kc ks T (mkF m pc' Ls rest)) : OG p e below s Q kc ks T (mkF m pc Ls (.int y :: .int x :: rest)) := by
  subst hp; exact OG.step (fun t q => XS.icmpNo X.here hx rfl hd rfl hc q) h
theorem o_ifnonnullYes (X : Stand p l e R s m args below meth c T locs cells slots) (hx : p.tables.exec = Jvm.exec) {pc pc' : Nat} {Ls : Array Slot} {rest : List Value} {o : Int} {b : Addr} (hd : decode c.code pc = .ok (.ifnonnull o, 3)) (ho : 0 ≤ (pc : Int) + o) (hp : ((pc : Int) + o).toNat = pc') (h : OG p e below s Q kc ks T (mkF m pc' Ls rest)) : OG p e below s Q kc ks T (mkF m pc Ls (.ref b :: rest)) :=
  OG.step (fun t q => XS.ifnonnullYes X.here hx rfl rfl hd rfl ho hp q) h
theorem o_ifnonnullNo (X : Stand p l e R s m args below meth c T locs cells slots) (hx : p.tables.exec = Jvm.exec) {pc pc' : Nat} {Ls : Array Slot} {rest : List Value} {o : Int} (hd : decode c.code pc = .ok (.ifnonnull o, 3)) (hp : pc + 3 = pc') (h : OG p e below s Q kc ks T (mkF m pc' Ls rest)) : OG p e below s Q kc ks T (mkF m pc Ls (.null :: rest)) := by
  subst hp; exact OG.step (fun t q => XS.ifnonnullNo X.here hx rfl hd rfl q) h
theorem o_ldcInt (X : Stand p l e R s m args below meth c T locs cells slots) (hx : p.tables.exec = Jvm.exec) {pc pc' : Nat} {Ls : Array Slot} {rest : List Value} {Z : State} {a0 : Array Value} {own : String} {i : Nat} {v : Int32} (hZ : Z.Warmed39 s.vm) (hown : s.vm.findClass own = some m.cls) (hd : decode c.code pc = .ok (.ldc i, 2)) (hk : (Cond.constant own i v).before a0 Z = true) (hp : pc + 2 = pc') (h : OG p e below s Q kc ks T (mkF m pc' Ls (.int v :: rest))) : OG p e below s Q kc ks T (mkF m pc Ls rest) := by
  subst hp; exact OG.step (fun t q => X.ldcInt hx hown (mvT hZ hk) (g := mkF m pc Ls rest) rfl hd t q) h
theorem o_ldc2Long (X : Stand p l e R s m args below meth c T locs cells slots) (hx : p.tables.exec = Jvm.exec) {pc pc' : Nat} {Ls : Array Slot} {rest : List Value} {Z : State} {a0 : Array Value} {own : String} {i : Nat} {v : Int64} (hZ : Z.Warmed39 s.vm) (hown : s.vm.findClass own = some m.cls) (hd : decode c.code pc = .ok (.ldc2_w i, 3)) (hk : (Cond.constantLong own i v).before a0 Z = true) (hp : pc + 3 = pc') (h : OG p e below s Q kc ks T (mkF m pc' Ls (.long v :: rest))) : OG p e below s Q kc ks T (mkF m pc Ls rest) := by
  subst hp; exact OG.step (fun t q => X.ldc2Long hx hown (mvT hZ hk) (g := mkF m pc Ls rest) rfl hd t q) h
theorem o_retI (X : Stand p l e R s m args below meth c T locs cells slots) (hx : p.tables.exec = Jvm.exec) (hlk : meth.locks = false) {pc : Nat} {Ls : Array Slot} {rest : List Value} {z : Int32} (hret : meth.sig.returnType = some .int) (hd : decode c.code pc = .ok (.ireturn, 1)) (hQ : Q (some (.int z)) T.heap locs) (h1 : cells ≤ kc) (h2 : slots ≤ ks) : OG p e below s Q kc ks T (mkF m pc Ls (.int z :: rest)) := by
  obtain ⟨fs, hr, hrun, hended, hW, hsame⟩ := X.leave (v := some (.int z)) (fun h => by rw [hret] at h; cases h) hlk
  exact ⟨_, _, retI X hx hret hd hr, hrun, hended, _, _, rfl, hQ, ⟨_, rfl⟩, hW, hsame.mono h1 h2⟩
theorem o_retJ (X : Stand p l e R s m args below meth c T locs cells slots) (hx : p.tables.exec = Jvm.exec) (hlk : meth.locks = false) {pc : Nat} {Ls : Array Slot} {rest : List Value} {z : Int64} (hret : meth.sig.returnType = some .long) (hd : decode c.code pc = .ok (.lreturn, 1)) (hQ : Q (some (.long z)) T.heap locs) (h1 : cells ≤ kc) (h2 : slots ≤ ks) : OG p e below s Q kc ks T (mkF m pc Ls (.long z :: rest)) := by
  obtain ⟨fs, hr, hrun, hended, hW, hsame⟩ := X.leave (v := some (.long z)) (fun h => by rw [hret] at h; cases h) hlk
  exact ⟨_, _, retJ X hx hret hd hr, hrun, hended, _, _, rfl, hQ, ⟨_, rfl⟩, hW, hsame.mono h1 h2⟩
theorem o_retN (X : Stand p l e R s m args below meth c T locs cells slots) (hx : p.tables.exec = Jvm.exec) (hlk : meth.locks = false) {pc : Nat} {Ls : Array Slot} {rest : List Value} {z w : Int32} {t : FieldType} (ht : t = .boolean ∨ t = .byte ∨ t = .char ∨ t = .short) (hret : meth.sig.returnType = some t) (hd : decode c.code pc = .ok (.ireturn, 1)) (hz : nar t z = w) (hQ : Q (some (.int w)) T.heap locs) (h1 : cells ≤ kc) (h2 : slots ≤ ks) : OG p e below s Q kc ks T (mkF m pc Ls (.int z :: rest)) := by
  subst hz
  obtain ⟨fs, hr, hrun, hended, hW, hsame⟩ := X.leave (v := some (.int (nar t z))) (fun h => by rw [hret] at h; cases h) hlk
  exact ⟨_, _, retN X hx hret ht hd hr, hrun, hended, _, _, rfl, hQ, ⟨_, rfl⟩, hW, hsame.mono h1 h2⟩
theorem o_ret (X : Stand p l e R s m args below meth c T locs cells slots) (hx : p.tables.exec = Jvm.exec) (hlk : meth.locks = false) {pc : Nat} {Ls : Array Slot} (hret : meth.sig.returnType = none) (hd : decode c.code pc = .ok (.return_, 1)) (hQ : Q none T.heap locs) (h1 : cells ≤ kc) (h2 : slots ≤ ks) : OG p e below s Q kc ks T (mkF m pc Ls []) := by
  obtain ⟨fs, hr, hrun, hended, hW, hsame⟩ := X.leave (v := none) (fun _ => rfl) hlk
  exact ⟨_, _, X.returnOut hx hret hd hr, hrun, hended, _, _, rfl, hQ, ⟨_, rfl⟩, hW, hsame.mono h1 h2⟩
variable {Z : State} {a0 : Array Value} {h : Heap}
theorem o_callS (X : Stand p l e R s m args below meth c T locs cells slots) (hx : p.tables.exec = Jvm.exec) (hZ : Z.Warmed39 s.vm) {own : String} {index : Nat} {y : MethodName} {bytes : ByteArray} {maxL : Nat} {ret : Option FieldType} {rm : Room} {Qc : Option Value → Heap → List Loc → Prop} {argsL rest st : List Value} {pc pc' : Nat} {Ls : Array Slot} (W : Nat)
    (hown : s.vm.findClass own = some m.cls) (eT : T.heap = h) (hlink : (Cond.methodLink own index y).before a0 Z = true) (hstat : (Cond.static y).before a0 Z = true) (hinit : (Cond.initialized y.cls).before a0 Z = true) (hcode : (Cond.code y bytes maxL ret).before a0 Z = true) (hy : y.cls ≠ "java/lang/invoke/MethodHandle" ∧ y.cls ≠ "java/lang/invoke/VarHandle")
    (hM : MetFree l y (head1 [Cond.code y bytes maxL ret] rm) (fun a U => a = argsL.toArray ∧ Z.Warmed39 U.vm ∧ U.heap = h) (fun _ _ _ _ _ => True) (fun _ U o U' => ∃ v L, o = .returned v ∧ Qc v U'.heap L ∧ FrameEnd U o U' L rm.cells rm.slots)) (hf : rm.frames + 1 ≤ R.frames) (hl : W + (maxL + 11) + rm.locals ≤ R.locals)
    (hsize : Ls.size = c.maxLocals) (hlen : ∀ sig, parseMethodDescriptor y.desc = some sig → argsL.length = sig.parameters.length) (hs : st = argsL.reverse ++ rest) (hW : (rest.map fun v => v.category).sum ≤ W) (hd : decode c.code pc = .ok (.invokestatic index, 3)) (hp : pc + 3 = pc') (hc : cells + rm.cells ≤ R.cells) (hsl : slots + rm.slots ≤ R.slots)
    (k : ∀ v T' L, Stand p l e R s m args below meth c T' (locs ++ L) (cells + rm.cells) (slots + rm.slots) → Qc v T'.heap L → OG p e below s Q kc ks T' (mkF m pc' Ls (v.toList ++ rest))) : OG p e below s Q kc ks T (mkF m pc Ls st) := by
  subst hp hs
  obtain ⟨v, vm₁, ⟨T1, L1, c1, n1⟩, -, X1, ⟨Lc, hQ, l1, y1, z1⟩, st⟩ := Jvm.LawKit.callS X hx (y := y) hown (mvT hZ hlink) (mvT hZ hstat) (mvT hZ hinit) (mvT hZ hcode) hy (backOf (W := W) hM hZ hcode hinit hf hl) (g := mkF m pc Ls (argsL.reverse ++ rest)) rfl hsize (argsL := argsL) (rest := rest) hlen rfl (by show 2 * 0 + _ ≤ _; omega) hd (fun _ _ => ⟨rfl, eT, hc, hsl⟩)
  dsimp only [Pt.U, Pt.locs, Pt.cells, Pt.slots] at X1 l1 y1 z1 st hQ
  subst l1 y1 z1
  exact OG.step st (k v T1 Lc X1 hQ)
theorem o_special (X : Stand p l e R s m args below meth c T locs cells slots) (hx : p.tables.exec = Jvm.exec) (hZ : Z.Warmed39 s.vm) {own : String} {index : Nat} {y : MethodName} {bytes : ByteArray} {maxL : Nat} {rm : Room} {Qc : Option Value → Heap → List Loc → Prop} {a : Addr} {argsL rest st : List Value} {pc pc' : Nat} {Ls : Array Slot} (W : Nat) (hy1 : y.name = "<init>")
    (hown : s.vm.findClass own = some m.cls) (eT : T.heap = h) (hlink : (Cond.methodLink own index y).before a0 Z = true) (hinst : (Cond.instanceMethod y).before a0 Z = true) (hinit : (Cond.initialized y.cls).before a0 Z = true) (hcode : (Cond.code y bytes maxL none).before a0 Z = true) (hy : y.cls ≠ "java/lang/invoke/MethodHandle" ∧ y.cls ≠ "java/lang/invoke/VarHandle")
    (hM : MetFree l y (head1 [Cond.code y bytes maxL none] rm) (fun b U => b = (.ref a :: argsL).toArray ∧ Z.Warmed39 U.vm ∧ U.heap = h) (fun _ _ _ _ _ => True) (fun _ U o U' => ∃ v L, o = .returned v ∧ Qc v U'.heap L ∧ FrameEnd U o U' L rm.cells rm.slots)) (hf : rm.frames + 1 ≤ R.frames) (hl : W + (maxL + 11) + rm.locals ≤ R.locals)
    (hsize : Ls.size = c.maxLocals) (hlen : ∀ sig, parseMethodDescriptor y.desc = some sig → argsL.length = sig.parameters.length) (hs : st = argsL.reverse ++ .ref a :: rest) (hW : (rest.map fun v => v.category).sum ≤ W) (hd : decode c.code pc = .ok (.invokespecial index, 3)) (hp : pc + 3 = pc') (hc : cells + rm.cells ≤ R.cells) (hsl : slots + rm.slots ≤ R.slots)
    (k : ∀ v T' L, Stand p l e R s m args below meth c T' (locs ++ L) (cells + rm.cells) (slots + rm.slots) → Qc v T'.heap L → OG p e below s Q kc ks T' (mkF m pc' Ls (v.toList ++ rest))) : OG p e below s Q kc ks T (mkF m pc Ls st) := by
  subst hp hs
  obtain ⟨v, vm₁, ⟨T1, L1, c1, n1⟩, -, X1, ⟨Lc, hQ, l1, y1, z1⟩, st⟩ := X.specialBack hx (y := y) hy1 hown (mvT hZ hlink) (mvT hZ hinst) (mvT hZ hcode) hy (backOf (W := W) hM hZ hcode hinit hf hl) (g := mkF m pc Ls (argsL.reverse ++ .ref a :: rest)) rfl hsize (Steps.refl _) (a := a) (argsL := argsL) (rest := rest) hlen rfl (by show 2 * 0 + _ ≤ _; omega) hd (fun _ _ => ⟨rfl, eT, hc, hsl⟩)
  dsimp only [Pt.U, Pt.locs, Pt.cells, Pt.slots] at X1 l1 y1 z1 st hQ
  subst l1 y1 z1
  exact OG.step (fun t q => st.trans q) (k v T1 Lc X1 hQ)
theorem o_virtual (X : Stand p l e R s m args below meth c T locs cells slots) (hx : p.tables.exec = Jvm.exec) (hZ : Z.Warmed39 s.vm) {own C : String} {index : Nat} {y : MethodName} {bytes : ByteArray} {maxL : Nat} {ret : Option FieldType} {rm : Room} {Qc : Option Value → Heap → List Loc → Prop} {a : Addr} {argsL rest st : List Value} {pc pc' : Nat} {Ls : Array Slot} (W : Nat)
    (hown : s.vm.findClass own = some m.cls) (eT : T.heap = h) (hlink : (Cond.methodLink own index y).before a0 Z = true) (hdecl : (Cond.declares y).before a0 Z = true) (hsel : (Cond.selects C y y).before a0 Z = true) (hinst : (Cond.instanceMethod y).before a0 Z = true) (hinit : (Cond.initialized y.cls).before a0 Z = true) (hcode : (Cond.code y bytes maxL ret).before a0 Z = true) (hy : y.cls ≠ "java/lang/invoke/MethodHandle" ∧ y.cls ≠ "java/lang/invoke/VarHandle")
    (E : Exa Z h a C)
    (hM : MetFree l y (head1 [Cond.code y bytes maxL ret] rm) (fun b U => b = (.ref a :: argsL).toArray ∧ Z.Warmed39 U.vm ∧ U.heap = h) (fun _ _ _ _ _ => True) (fun _ U o U' => ∃ v L, o = .returned v ∧ Qc v U'.heap L ∧ FrameEnd U o U' L rm.cells rm.slots)) (hf : rm.frames + 1 ≤ R.frames) (hl : W + (maxL + 11) + rm.locals ≤ R.locals)
    (hsize : Ls.size = c.maxLocals) (hlen : ∀ sig, parseMethodDescriptor y.desc = some sig → argsL.length = sig.parameters.length) (hs : st = argsL.reverse ++ .ref a :: rest) (hW : (rest.map fun v => v.category).sum ≤ W) (hd : decode c.code pc = .ok (.invokevirtual index, 3)) (hp : pc + 3 = pc') (hc : cells + rm.cells ≤ R.cells) (hsl : slots + rm.slots ≤ R.slots)
    (k : ∀ v T' L, Stand p l e R s m args below meth c T' (locs ++ L) (cells + rm.cells) (slots + rm.slots) → Qc v T'.heap L → OG p e below s Q kc ks T' (mkF m pc' Ls (v.toList ++ rest))) : OG p e below s Q kc ks T (mkF m pc Ls st) := by
  subst hp hs
  obtain ⟨cq, kq, qa, qb, qc⟩ := isOf hZ eT E
  obtain ⟨v, vm₁, ⟨T1, L1, c1, n1⟩, -, X1, ⟨Lc, hQ, l1, y1, z1⟩, st⟩ := X.virtualBack hx (y := y) (z := y) hown (mvT hZ hlink) (mvT hZ hdecl) (notFace_of_selects (args := #[]) (mvT hZ hsel)) (mvT hZ hsel) (mvT hZ hinst) hy (backOf (W := W) hM hZ hcode hinit hf hl) qa qc (g := mkF m pc Ls (argsL.reverse ++ .ref a :: rest)) rfl hsize (Steps.refl _) (argsL := argsL) (rest := rest) hlen rfl (by show 2 * 0 + _ ≤ _; omega) hd (fun _ _ => ⟨rfl, eT, hc, hsl⟩)
  dsimp only [Pt.U, Pt.locs, Pt.cells, Pt.slots] at X1 l1 y1 z1 st hQ
  subst l1 y1 z1
  exact OG.step (fun t q => st.trans q) (k v T1 Lc X1 hQ)
theorem o_new (X : Stand p l e R s m args below meth c T locs cells slots) (hx : p.tables.exec = Jvm.exec) (hZ : Z.Warmed39 s.vm) {own C : String} {index n : Nat} {pc pc' : Nat} {Ls : Array Slot} {rest : List Value} (hown : s.vm.findClass own = some m.cls) (eT : T.heap = h) (w : (Cond.classLink own index C).before a0 Z = true) (wi : (Cond.instantiable C n).before a0 Z = true) (wz : (Cond.initialized C).before a0 Z = true) (hd : decode c.code pc = .ok (.new index, 3)) (hp : pc + 3 = pc') (hc : cells + 1 ≤ R.cells) (hl : slots + n ≤ R.slots)
    (k : ∀ T' h' a, Stand p l e R s m args below meth c T' locs (cells + 1) (slots + n) → T'.heap = h' → a = h.size → Ext h h' → Exa Z h' a C → (∀ {O nm d : String} {ty : FieldType}, Laid Z a0 C O nm d → parseFieldDescriptor d = some ty → Fld Z h' a O nm d (defaultValue ty)) → OG p e below s Q kc ks T' (mkF m pc' Ls (.ref a :: rest))) : OG p e below s Q kc ks T (mkF m pc Ls rest) := by
  subst hp
  obtain ⟨T2, h2, X2, e2, E2, A2, D2, -, st2⟩ := newO X hx hZ hown w wi wz eT (g := mkF m pc Ls rest) rfl hd hc hl
  exact OG.step st2 (k T2 h2 _ X2 e2 rfl E2 A2 D2)
theorem o_initO (X : Stand p l e R s m args below meth c T locs cells slots) (hx : p.tables.exec = Jvm.exec) (hZ : Z.Warmed39 s.vm) {own : String} {index : Nat} {a : Addr} {pc pc' : Nat} {Ls : Array Slot} {rest : List Value} (W : Nat) (hown : s.vm.findClass own = some m.cls) (eT : T.heap = h)
    (w1 : (Cond.methodLink own index Lib.objectInit).before a0 Z = true) (w2 : (Cond.instanceMethod Lib.objectInit).before a0 Z = true) (w3 : (Cond.code Lib.objectInit object_method_1_code 1 none).before a0 Z = true) (hsize : Ls.size = c.maxLocals) (hd : decode c.code pc = .ok (.invokespecial index, 3)) (hf : 1 ≤ R.frames) (hW : (rest.map fun v => v.category).sum ≤ W) (hl : W + 12 ≤ R.locals) (hp : pc + 3 = pc')
    (k : ∀ T', Stand p l e R s m args below meth c T' locs cells slots → T'.heap = h → OG p e below s Q kc ks T' (mkF m pc' Ls rest)) : OG p e below s Q kc ks T (mkF m pc Ls (.ref a :: rest)) := by
  subst hp
  obtain ⟨T1, X1, e1, st1⟩ := initO X hx hZ hown w1 w2 w3 eT (g := mkF m pc Ls (.ref a :: rest)) rfl hsize rfl hd hf (W := W) (by show 2 * 0 + _ ≤ _; omega) hl
  exact OG.step st1 (k T1 X1 e1)
theorem o_getF (X : Stand p l e R s m args below meth c T locs cells slots) (hx : p.tables.exec = Jvm.exec) (hZ : Z.Warmed39 s.vm) {own R0 O n d : String} {index : Nat} {a : Addr} {v : Value} {pc pc' : Nat} {Ls : Array Slot} {rest : List Value} (hown : s.vm.findClass own = some m.cls) (eT : T.heap = h) (w : (Cond.fieldLink own index R0 n d).before a0 Z = true) (via : Via Z R0 O n d) (F : Fld Z h a O n d v) (hd : decode c.code pc = .ok (.getfield index, 3)) (hp : pc + 3 = pc')
    (k : ∀ T', Stand p l e R s m args below meth c T' locs cells slots → T'.heap = h → OG p e below s Q kc ks T' (mkF m pc' Ls (v :: rest))) : OG p e below s Q kc ks T (mkF m pc Ls (.ref a :: rest)) := by
  subst hp
  obtain ⟨T1, X1, e1, st1⟩ := getF X hx hZ hown (host := "") (Or.inl w) via eT F (g := mkF m pc Ls (.ref a :: rest)) rfl rfl hd
  exact OG.step st1 (k T1 X1 e1)
theorem o_putF (X : Stand p l e R s m args below meth c T locs cells slots) (hx : p.tables.exec = Jvm.exec) (hZ : Z.Warmed39 s.vm) {own R0 O n d C : String} {index kk : Nat} {ty : FieldType} {a : Addr} {v old : Value} {pc pc' : Nat} {Ls : Array Slot} {rest : List Value} (hown : s.vm.findClass own = some m.cls) (eT : T.heap = h) (w : (Cond.fieldLink own index R0 n d).before a0 Z = true) (via : Via Z R0 O n d) (F : Fld Z h a O n d old) (E : Exa Z h a C)
    (L : (Cond.lays C O n d).before a0 Z = true ∨ ((Cond.laysFinal C O n d).before a0 Z = true ∧ own = O ∧ meth.name = "<init>")) (wi : (Cond.instantiable C kk).before a0 Z = true) (hty : parseFieldDescriptor d = some ty) (hn : narrow ty v = v) (hf : fits ty v = true) (hd : decode c.code pc = .ok (.putfield index, 3)) (hp : pc + 3 = pc')
    (k : ∀ T' h', Stand p l e R s m args below meth c T' (locs ++ [⟨a, RoadKit.slotOf Z O n d⟩]) cells slots → T'.heap = h' → Wr h h' a (RoadKit.slotOf Z O n d) v → OG p e below s Q kc ks T' (mkF m pc' Ls rest)) : OG p e below s Q kc ks T (mkF m pc Ls (v :: .ref a :: rest)) := by
  subst hp
  obtain ⟨T1, h1, X1, e1, W1, st1⟩ := putF X hx hZ hown (host := "") (Or.inl w) via eT F E L wi hty hn hf (g := mkF m pc Ls (v :: .ref a :: rest)) rfl rfl hd
  exact OG.step st1 (k T1 h1 X1 e1 W1)
theorem z_tlt {x : Int32} (h : x < 0) : ifCond.holds .lt x = true ∧ ifCond.holds .ge x = false := ⟨(if0 _ _).trans (tlt h).1, (if0 _ _).trans (tlt h).2.1⟩
theorem z_flt {x : Int32} (h : ¬ x < 0) : ifCond.holds .lt x = false ∧ ifCond.holds .ge x = true := ⟨(if0 _ _).trans (flt h).1, (if0 _ _).trans (flt h).2.1⟩
theorem z_tgt {x : Int32} (h : 0 < x) : ifCond.holds .gt x = true ∧ ifCond.holds .le x = false := ⟨(if0 _ _).trans (tlt h).2.2.1, (if0 _ _).trans (tlt h).2.2.2⟩
theorem z_fgt {x : Int32} (h : ¬ 0 < x) : ifCond.holds .gt x = false ∧ ifCond.holds .le x = true := ⟨(if0 _ _).trans (flt h).2.2.1, (if0 _ _).trans (flt h).2.2.2⟩
theorem z_teq {x : Int32} (h : x = 0) : ifCond.holds .eq x = true ∧ ifCond.holds .ne x = false := ⟨(if0 _ _).trans (teq h).1, (if0 _ _).trans (teq h).2⟩
theorem z_feq {x : Int32} (h : ¬ x = 0) : ifCond.holds .eq x = false ∧ ifCond.holds .ne x = true := ⟨(if0 _ _).trans (feq h).1, (if0 _ _).trans (feq h).2⟩
theorem c_tlt {x y : Int32} (h : x < y) : if_icmp.holds .lt x y = true ∧ if_icmp.holds .ge x y = false := ⟨(tlt h).1, (tlt h).2.1⟩
theorem c_flt {x y : Int32} (h : ¬ x < y) : if_icmp.holds .lt x y = false ∧ if_icmp.holds .ge x y = true := ⟨(flt h).1, (flt h).2.1⟩
theorem c_tgt {x y : Int32} (h : y < x) : if_icmp.holds .gt x y = true ∧ if_icmp.holds .le x y = false := ⟨(tlt h).2.2.1, (tlt h).2.2.2⟩
theorem c_fgt {x y : Int32} (h : ¬ y < x) : if_icmp.holds .gt x y = false ∧ if_icmp.holds .le x y = true := ⟨(flt h).2.2.1, (flt h).2.2.2⟩
theorem c_teq {x y : Int32} (h : x = y) : if_icmp.holds .eq x y = true ∧ if_icmp.holds .ne x y = false := teq h
theorem c_feq {x y : Int32} (h : ¬ x = y) : if_icmp.holds .eq x y = false ∧ if_icmp.holds .ne x y = true := feq h
theorem l_tlt {x y : Int64} (h : x < y) : ifCond.holds .lt (lcmpW x y) = true ∧ ifCond.holds .ge (lcmpW x y) = false := z_tlt ((lw_lt x y).mpr h)
theorem l_flt {x y : Int64} (h : ¬ x < y) : ifCond.holds .lt (lcmpW x y) = false ∧ ifCond.holds .ge (lcmpW x y) = true := z_flt (fun q => h ((lw_lt x y).mp q))
theorem l_tgt {x y : Int64} (h : y < x) : ifCond.holds .gt (lcmpW x y) = true ∧ ifCond.holds .le (lcmpW x y) = false := z_tgt ((lw_gt x y).mpr h)
theorem l_fgt {x y : Int64} (h : ¬ y < x) : ifCond.holds .gt (lcmpW x y) = false ∧ ifCond.holds .le (lcmpW x y) = true := z_fgt (fun q => h ((lw_gt x y).mp q))
theorem l_teq {x y : Int64} (h : x = y) : ifCond.holds .eq (lcmpW x y) = true ∧ ifCond.holds .ne (lcmpW x y) = false := z_teq ((lw_eq x y).mpr h)
theorem l_feq {x y : Int64} (h : ¬ x = y) : ifCond.holds .eq (lcmpW x y) = false ∧ ifCond.holds .ne (lcmpW x y) = true := z_feq (fun q => h ((lw_eq x y).mp q))
end Own
section OwnA
variable {p : Program} {l : Launch} {e : Env} {R : Room} {s : State} {m : MethodId} {args : Array Value} {below : List Frame} {meth : Method} {c : Code} {T : State} {locs : List Loc} {cells slots : Nat} {Q : Option Value → Heap → List Loc → Prop} {kc ks : Nat} {Z : State} {a0 : Array Value} {h h' : Heap} {a b : Addr} {ty : FieldType} {n : Nat} {f : Nat → Value}
/-- an array of n values: the i-th is f i -/
def OAr (Z : State) (h : Heap) (a : Addr) (ty : FieldType) (n : Nat) (f : Nat → Value) : Prop := ∃ c : Cell, Arr Z h a c ty ∧ c.slots.size = n ∧ ∀ i, i < n → c.slots[i]? = some (f i)
theorem OAr.ext (E : Ext h h') (F : OAr Z h b ty n f) : OAr Z h' b ty n f := by obtain ⟨c, A, r⟩ := F; exact ⟨c, A.ext E, r⟩
theorem OAr.other {sl : Nat} {v : Value} (W : Wr h h' a sl v) (F : OAr Z h b ty n f) (q : b ≠ a) : OAr Z h' b ty n f := by obtain ⟨c, A, r⟩ := F; exact ⟨c, A.other W q, r⟩
theorem OAr.keep {ws : List Addr} (F : OAr Z h b ty n f) (K : Keep h h' ws) (q : b ∉ ws) : OAr Z h' b ty n f := by obtain ⟨c, A, r⟩ := F; exact ⟨c, ⟨K.2.1 b c A.1 q, A.2⟩, r⟩
theorem OAr.lt (F : OAr Z h a ty n f) : a < h.size := by obtain ⟨c, A, -⟩ := F; exact A.lt
theorem OAr.cg {g : Nat → Value} (F : OAr Z h a ty n f) (q : ∀ i, i < n → g i = f i) : OAr Z h a ty n g := by obtain ⟨c, A, r, H⟩ := F; exact ⟨c, A, r, fun i hi => by rw [q i hi]; exact H i hi⟩
theorem OAr.same {j : Nat} {v : Value} (W : Wr h h' a j v) (F : OAr Z h a ty n f) : OAr Z h' a ty n (fun i => if i = j then v else f i) := by
  obtain ⟨c, A, r, H⟩ := F
  refine ⟨_, Arr.same W A, by simp [Cell.setSlot, r], fun i hi => ?_⟩
  obtain ⟨c', h1, -, h3, -⟩ := W
  have hlt : j < c.slots.size := by have := h1.symm.trans A.1; cases this; exact h3
  simp only [Cell.setSlot]
  rw [Array.getElem?_setIfInBounds]
  by_cases q : j = i
  · subst q; simp [hlt]
  · rw [if_neg q, if_neg (fun z => q z.symm)]; exact H i hi
theorem OAr.new {k : ClassId} {z : Int32} (A : Arr Z h a (newA k ty z) ty) : OAr Z h a ty z.toNatClampNeg (fun _ => defaultValue ty) :=
  ⟨_, A, sz_new _ _ _, fun i hi => by simp [newA, hi]⟩
/-- the first values by a list -/
def lk (vs : List Value) (k : Nat) : Value := vs.getD k .null
theorem OAr.setL {vs : List Value} {j : Nat} {v : Value} (W : Wr h h' a j v) (F : OAr Z h a ty n (lk vs)) (hj : j < vs.length) : OAr Z h' a ty n (lk (vs.set j v)) :=
  (OAr.same W F).cg fun i hi => by
    unfold lk
    by_cases q : i = j
    · subst q; simp [hj]
    · simp only [List.getD_eq_getElem?_getD, List.getElem?_set, if_neg q, if_neg (fun z : j = i => q z.symm)]
theorem o_alen (X : Stand p l e R s m args below meth c T locs cells slots) (hx : p.tables.exec = Jvm.exec) (hZ : Z.Warmed39 s.vm) {pc pc' : Nat} {Ls : Array Slot} {rest : List Value} (eT : T.heap = h) (F : OAr Z h a ty n f) (hd : decode c.code pc = .ok (.arraylength, 1)) (z : Int32) (hz : n.toInt32 = z) (hp : pc + 1 = pc') (k : OG p e below s Q kc ks T (mkF m pc' Ls (.int z :: rest))) : OG p e below s Q kc ks T (mkF m pc Ls (.ref a :: rest)) := by
  subst hp hz
  obtain ⟨cl, A, r, H⟩ := F
  exact OG.step (fun t q => X.arraylength hx (by rw [eT]; exact A.1) (State.isArrayOf_alike hZ.alike A.2.1) (g := mkF m pc Ls (.ref a :: rest)) rfl rfl hd t (by rw [r]; exact q)) k
theorem o_newarr (X : Stand p l e R s m args below meth c T locs cells slots) (hx : p.tables.exec = Jvm.exec) (hZ : Z.Warmed39 s.vm) {pc pc' : Nat} {Ls : Array Slot} {rest : List Value} {aty : ArrayType} {z : Int32} (eT : T.heap = h) (w : (Cond.arrayClass (newarray.typeOf aty)).before a0 Z = true) (hd : decode c.code pc = .ok (.newarray aty, 2)) (hn : ¬ z < 0) (cap : Nat) (hcap : z.toNatClampNeg ≤ cap) (hb : cap * 8 ≤ 536870912) (hc : cells + 1 ≤ R.cells) (hl : slots + cap ≤ R.slots) (hp : pc + 2 = pc')
    (k : ∀ T' h' a, Stand p l e R s m args below meth c T' locs (cells + 1) (slots + cap) → T'.heap = h' → a = h.size → Ext h h' → OAr Z h' a (newarray.typeOf aty) z.toNatClampNeg (fun _ => defaultValue (newarray.typeOf aty)) → OG p e below s Q kc ks T' (mkF m pc' Ls (.ref a :: rest))) : OG p e below s Q kc ks T (mkF m pc Ls (.int z :: rest)) := by
  subst hp
  obtain ⟨T1, h1, cA, X1, e1, E1, A1, st1⟩ := newP X hx hZ w eT (g := mkF m pc Ls (.int z :: rest)) rfl hd rfl hn hcap hb hc hl
  exact OG.step st1 (k T1 h1 _ X1 e1 rfl E1 (OAr.new A1))
theorem o_inb {cl : Cell} {j : Int32} (r : cl.slots.size = n) (hj : ¬ j < 0) (hlt : j.toNatClampNeg < n) : ¬ (j < 0 ∨ cl.slots.size ≤ j.toNatClampNeg) := by
  rintro (q | q)
  · exact hj q
  · omega
theorem o_iaload (X : Stand p l e R s m args below meth c T locs cells slots) (hx : p.tables.exec = Jvm.exec) (hZ : Z.Warmed39 s.vm) {pc pc' : Nat} {Ls : Array Slot} {rest : List Value} {j : Int32} (eT : T.heap = h) (F : OAr Z h a .int n f) (hd : decode c.code pc = .ok (.iaload, 1)) (hj : ¬ j < 0) (hlt : j.toNatClampNeg < n) (x : Int32) (hv : f j.toNatClampNeg = .int x) (hp : pc + 1 = pc') (k : OG p e below s Q kc ks T (mkF m pc' Ls (.int x :: rest))) : OG p e below s Q kc ks T (mkF m pc Ls (.int j :: .ref a :: rest)) := by
  subst hp
  obtain ⟨cl, A, r, H⟩ := F
  exact OG.step (fun t q => X.iaload hx (j := j) (v := .int x) (by rw [eT]; exact A.1) (State.isArrayOf_alike hZ.alike A.2.1) A.2.2 (o_inb r hj hlt) (by rw [H _ hlt, hv]) (g := mkF m pc Ls (.int j :: .ref a :: rest)) rfl rfl hd t q) k
theorem o_laload (X : Stand p l e R s m args below meth c T locs cells slots) (hx : p.tables.exec = Jvm.exec) (hZ : Z.Warmed39 s.vm) {pc pc' : Nat} {Ls : Array Slot} {rest : List Value} {j : Int32} (eT : T.heap = h) (F : OAr Z h a .long n f) (hd : decode c.code pc = .ok (.laload, 1)) (hj : ¬ j < 0) (hlt : j.toNatClampNeg < n) (x : Int64) (hv : f j.toNatClampNeg = .long x) (hp : pc + 1 = pc') (k : OG p e below s Q kc ks T (mkF m pc' Ls (.long x :: rest))) : OG p e below s Q kc ks T (mkF m pc Ls (.int j :: .ref a :: rest)) := by
  subst hp
  obtain ⟨cl, A, r, H⟩ := F
  exact OG.step (fun t q => X.laload hx (j := j) (v := .long x) (by rw [eT]; exact A.1) (State.isArrayOf_alike hZ.alike A.2.1) A.2.2 (o_inb r hj hlt) (by rw [H _ hlt, hv]) (g := mkF m pc Ls (.int j :: .ref a :: rest)) rfl rfl hd t q) k
theorem o_caload (X : Stand p l e R s m args below meth c T locs cells slots) (hx : p.tables.exec = Jvm.exec) (hZ : Z.Warmed39 s.vm) {pc pc' : Nat} {Ls : Array Slot} {rest : List Value} {j : Int32} (eT : T.heap = h) (F : OAr Z h a .char n f) (hd : decode c.code pc = .ok (.caload, 1)) (hj : ¬ j < 0) (hlt : j.toNatClampNeg < n) (x : Int32) (hv : f j.toNatClampNeg = .int x) (hp : pc + 1 = pc') (k : OG p e below s Q kc ks T (mkF m pc' Ls (.int x :: rest))) : OG p e below s Q kc ks T (mkF m pc Ls (.int j :: .ref a :: rest)) := by
  subst hp
  obtain ⟨cl, A, r, H⟩ := F
  exact OG.step (fun t q => X.caload hx (j := j) (v := .int x) (by rw [eT]; exact A.1) (State.isArrayOf_alike hZ.alike A.2.1) A.2.2 (o_inb r hj hlt) (by rw [H _ hlt, hv]) (g := mkF m pc Ls (.int j :: .ref a :: rest)) rfl rfl hd t q) k
theorem o_baload (X : Stand p l e R s m args below meth c T locs cells slots) (hx : p.tables.exec = Jvm.exec) (hZ : Z.Warmed39 s.vm) {pc pc' : Nat} {Ls : Array Slot} {rest : List Value} {j : Int32} (eT : T.heap = h) (F : OAr Z h a .byte n f) (hd : decode c.code pc = .ok (.baload, 1)) (hj : ¬ j < 0) (hlt : j.toNatClampNeg < n) (x : Int32) (hv : f j.toNatClampNeg = .int x) (hp : pc + 1 = pc') (k : OG p e below s Q kc ks T (mkF m pc' Ls (.int x :: rest))) : OG p e below s Q kc ks T (mkF m pc Ls (.int j :: .ref a :: rest)) := by
  subst hp
  obtain ⟨cl, A, r, H⟩ := F
  exact OG.step (fun t q => X.baloadBytes hx (j := j) (v := .int x) (by rw [eT]; exact A.1) (State.isArrayOf_alike hZ.alike A.2.1) A.2.2 (o_inb r hj hlt) (by rw [H _ hlt, hv]) (g := mkF m pc Ls (.int j :: .ref a :: rest)) rfl rfl hd t q) k
theorem o_iastore (X : Stand p l e R s m args below meth c T locs cells slots) (hx : p.tables.exec = Jvm.exec) (hZ : Z.Warmed39 s.vm) {pc pc' : Nat} {Ls : Array Slot} {rest : List Value} {j : Int32} {x : Int32} (eT : T.heap = h) (F : OAr Z h a .int n f) (hd : decode c.code pc = .ok (.iastore, 1)) (hj : ¬ j < 0) (hlt : j.toNatClampNeg < n) (hp : pc + 1 = pc')
    (k : ∀ T' h', Stand p l e R s m args below meth c T' (locs ++ [⟨a, j.toNatClampNeg⟩]) cells slots → T'.heap = h' → Wr h h' a j.toNatClampNeg (.int x) → OG p e below s Q kc ks T' (mkF m pc' Ls rest)) : OG p e below s Q kc ks T (mkF m pc Ls (.int x :: .int j :: .ref a :: rest)) := by
  subst hp
  obtain ⟨cl, A, r, H⟩ := F
  obtain ⟨T1, h1, X1, e1, W1, st1⟩ := stI X hx hZ eT A (o_inb r hj hlt) (g := mkF m pc Ls (.int x :: .int j :: .ref a :: rest)) rfl rfl hd
  exact OG.step st1 (k T1 h1 X1 e1 W1)
theorem o_lastore (X : Stand p l e R s m args below meth c T locs cells slots) (hx : p.tables.exec = Jvm.exec) (hZ : Z.Warmed39 s.vm) {pc pc' : Nat} {Ls : Array Slot} {rest : List Value} {j : Int32} {x : Int64} (eT : T.heap = h) (F : OAr Z h a .long n f) (hd : decode c.code pc = .ok (.lastore, 1)) (hj : ¬ j < 0) (hlt : j.toNatClampNeg < n) (hp : pc + 1 = pc')
    (k : ∀ T' h', Stand p l e R s m args below meth c T' (locs ++ [⟨a, j.toNatClampNeg⟩]) cells slots → T'.heap = h' → Wr h h' a j.toNatClampNeg (.long x) → OG p e below s Q kc ks T' (mkF m pc' Ls rest)) : OG p e below s Q kc ks T (mkF m pc Ls (.long x :: .int j :: .ref a :: rest)) := by
  subst hp
  obtain ⟨cl, A, r, H⟩ := F
  obtain ⟨T1, h1, X1, e1, W1, st1⟩ := stJ X hx hZ eT A (o_inb r hj hlt) (g := mkF m pc Ls (.long x :: .int j :: .ref a :: rest)) rfl rfl hd
  exact OG.step st1 (k T1 h1 X1 e1 W1)
theorem o_castore (X : Stand p l e R s m args below meth c T locs cells slots) (hx : p.tables.exec = Jvm.exec) (hZ : Z.Warmed39 s.vm) {pc pc' : Nat} {Ls : Array Slot} {rest : List Value} {j : Int32} {x : Int32} (eT : T.heap = h) (F : OAr Z h a .char n f) (hd : decode c.code pc = .ok (.castore, 1)) (hj : ¬ j < 0) (hlt : j.toNatClampNeg < n) (hp : pc + 1 = pc')
    (k : ∀ T' h', Stand p l e R s m args below meth c T' (locs ++ [⟨a, j.toNatClampNeg⟩]) cells slots → T'.heap = h' → Wr h h' a j.toNatClampNeg (.int (nar .char x)) → OG p e below s Q kc ks T' (mkF m pc' Ls rest)) : OG p e below s Q kc ks T (mkF m pc Ls (.int x :: .int j :: .ref a :: rest)) := by
  subst hp
  obtain ⟨cl, A, r, H⟩ := F
  obtain ⟨T1, h1, X1, e1, W1, st1⟩ := stC X hx hZ eT A (o_inb r hj hlt) (g := mkF m pc Ls (.int x :: .int j :: .ref a :: rest)) rfl rfl hd
  exact OG.step st1 (k T1 h1 X1 e1 W1)
theorem o_bastore (X : Stand p l e R s m args below meth c T locs cells slots) (hx : p.tables.exec = Jvm.exec) (hZ : Z.Warmed39 s.vm) {pc pc' : Nat} {Ls : Array Slot} {rest : List Value} {j : Int32} {x : Int32} (eT : T.heap = h) (F : OAr Z h a .byte n f) (hd : decode c.code pc = .ok (.bastore, 1)) (hj : ¬ j < 0) (hlt : j.toNatClampNeg < n) (hp : pc + 1 = pc')
    (k : ∀ T' h', Stand p l e R s m args below meth c T' (locs ++ [⟨a, j.toNatClampNeg⟩]) cells slots → T'.heap = h' → Wr h h' a j.toNatClampNeg (.int (nar .byte x)) → OG p e below s Q kc ks T' (mkF m pc' Ls rest)) : OG p e below s Q kc ks T (mkF m pc Ls (.int x :: .int j :: .ref a :: rest)) := by
  subst hp
  obtain ⟨cl, A, r, H⟩ := F
  obtain ⟨T1, h1, X1, e1, W1, st1⟩ := stB X hx hZ eT A (o_inb r hj hlt) (g := mkF m pc Ls (.int x :: .int j :: .ref a :: rest)) rfl rfl hd
  exact OG.step st1 (k T1 h1 X1 e1 W1)
theorem o_private (X : Stand p l e R s m args below meth c T locs cells slots) (hx : p.tables.exec = Jvm.exec) (hZ : Z.Warmed39 s.vm) {own : String} {index kk : Nat} {y : MethodName} {bytes : ByteArray} {maxL : Nat} {ret : Option FieldType} {rm : Room} {Qc : Option Value → Heap → List Loc → Prop} {argsL rest st : List Value} {pc pc' : Nat} {Ls : Array Slot} (W : Nat)
    (hown : s.vm.findClass own = some m.cls) (eT : T.heap = h) (hlink : (Cond.methodLink own index y).before a0 Z = true) (hinst : (Cond.instanceMethod y).before a0 Z = true) (hpriv : (Cond.privateMethod y).before a0 Z = true) (wi : (Cond.instantiable y.cls kk).before a0 Z = true) (hinit : (Cond.initialized y.cls).before a0 Z = true) (hcode : (Cond.code y bytes maxL ret).before a0 Z = true) (hy : y.cls ≠ "java/lang/invoke/MethodHandle" ∧ y.cls ≠ "java/lang/invoke/VarHandle")
    (E : Exa Z h a y.cls)
    (hM : MetFree l y (head1 [Cond.code y bytes maxL ret] rm) (fun b U => b = (.ref a :: argsL).toArray ∧ Z.Warmed39 U.vm ∧ U.heap = h) (fun _ _ _ _ _ => True) (fun _ U o U' => ∃ v L, o = .returned v ∧ Qc v U'.heap L ∧ FrameEnd U o U' L rm.cells rm.slots)) (hf : rm.frames + 1 ≤ R.frames) (hl : W + (maxL + 11) + rm.locals ≤ R.locals)
    (hsize : Ls.size = c.maxLocals) (hlen : ∀ sig, parseMethodDescriptor y.desc = some sig → argsL.length = sig.parameters.length) (hs : st = argsL.reverse ++ .ref a :: rest) (hW : (rest.map fun v => v.category).sum ≤ W) (hd : decode c.code pc = .ok (.invokevirtual index, 3)) (hp : pc + 3 = pc') (hc : cells + rm.cells ≤ R.cells) (hsl : slots + rm.slots ≤ R.slots)
    (k : ∀ v T' L, Stand p l e R s m args below meth c T' (locs ++ L) (cells + rm.cells) (slots + rm.slots) → Qc v T'.heap L → OG p e below s Q kc ks T' (mkF m pc' Ls (v.toList ++ rest))) : OG p e below s Q kc ks T (mkF m pc Ls st) := by
  subst hp hs
  obtain ⟨cq, q1, q2⟩ := E.cell
  have hpa := Cond.privateMethod_at (mvP hZ hpriv (args := args))
  obtain ⟨cI, kI, i1, i2, -, i4, -⟩ := Cond.instantiable_spec (mvT hZ wi : (Cond.instantiable y.cls kk).before args s = true)
  have hni : kI.isInterface = false := (Bool.or_eq_false_iff.mp i4).1
  have hsel := selects_self_of_private (args := args) i1 i2 hni hpa (mvT hZ hinst) hy
  obtain ⟨v, vm₁, ⟨T1, L1, c1, n1⟩, -, X1, ⟨Lc, hQ, l1, y1, z1⟩, st⟩ := X.privateBack hx (y := y) hown (mvT hZ hlink) (mvT hZ hinst) hsel hpa (mvT hZ hcode) hy (backOf (W := W) hM hZ hcode hinit hf hl) (g := mkF m pc Ls (argsL.reverse ++ .ref a :: rest)) rfl hsize (Steps.refl _) (a := a) (by rw [eT]; exact q1) q2 (argsL := argsL) (rest := rest) hlen rfl (by show 2 * 0 + _ ≤ _; omega) hd (fun _ _ => ⟨rfl, eT, hc, hsl⟩)
  dsimp only [Pt.U, Pt.locs, Pt.cells, Pt.slots] at X1 l1 y1 z1 st hQ
  subst l1 y1 z1
  exact OG.step (fun t q => st.trans q) (k v T1 Lc X1 hQ)
end OwnA
section OwnB
def ci (c : Nat → Int32) : Nat → Value := fun i => .int (c i)
def cj (c : Nat → Int64) : Nat → Value := fun i => .long (c i)
def li (vs : List Int32) (i : Nat) : Int32 := vs.getD i 0
def upd (c : Nat → Int32) (j : Nat) (x : Int32) : Nat → Int32 := fun i => if i = j then x else c i
def updJ (c : Nat → Int64) (j : Nat) (x : Int64) : Nat → Int64 := fun i => if i = j then x else c i
variable {Z : State} {h h' : Heap} {a : Addr} {ty : FieldType} {n : Nat}
theorem OAr.setI {vs : List Int32} {j : Nat} {x : Int32} (W : Wr h h' a j (.int x)) (F : OAr Z h a ty n (ci (li vs))) (hj : j < vs.length) : OAr Z h' a ty n (ci (li (vs.set j x))) :=
  (OAr.same W F).cg fun i hi => by
    unfold ci li
    by_cases q : i = j
    · subst q; simp [hj]
    · simp only [List.getD_eq_getElem?_getD, List.getElem?_set, if_neg q, if_neg (fun z : j = i => q z.symm)]
theorem OAr.updI {c : Nat → Int32} {j : Nat} {x : Int32} (W : Wr h h' a j (.int x)) (F : OAr Z h a ty n (ci c)) : OAr Z h' a ty n (ci (upd c j x)) :=
  (OAr.same W F).cg fun i hi => by unfold ci upd; split <;> rfl
theorem OAr.updJ {c : Nat → Int64} {j : Nat} {x : Int64} (W : Wr h h' a j (.long x)) (F : OAr Z h a ty n (cj c)) : OAr Z h' a ty n (cj (updJ c j x)) :=
  (OAr.same W F).cg fun i hi => by unfold cj Jvm.Pilot.@@N@@.updJ; split <;> rfl
theorem OAr.zeros {k : Nat} (F : OAr Z h a ty n (fun _ => .int 0)) : OAr Z h a ty n (ci (li (List.replicate k 0))) :=
  F.cg fun i hi => by unfold ci li; by_cases q : i < k <;> simp [q]
theorem own_back {z : Int32} (q : ¬ z < 0) : z.toNatClampNeg.toInt32 = z := (back32 q).1
end OwnB

theorem d1_0 : decode method_3_code 0 = .ok (.iload_n 0, 1) := by decide +kernel
theorem d1_1 : decode method_3_code 1 = .ok (.ifCond .ne 5, 3) := by decide +kernel
theorem d1_4 : decode method_3_code 4 = .ok (.iload_n 1, 1) := by decide +kernel
theorem d1_5 : decode method_3_code 5 = .ok (.ireturn, 1) := by decide +kernel
theorem d1_6 : decode method_3_code 6 = .ok (.iload_n 0, 1) := by decide +kernel
theorem d1_7 : decode method_3_code 7 = .ok (.iconst 1, 1) := by decide +kernel
theorem d1_8 : decode method_3_code 8 = .ok (.if_icmp .ne 5, 3) := by decide +kernel
theorem d1_11 : decode method_3_code 11 = .ok (.iload_n 2, 1) := by decide +kernel
theorem d1_12 : decode method_3_code 12 = .ok (.ireturn, 1) := by decide +kernel
theorem d1_13 : decode method_3_code 13 = .ok (.iload_n 0, 1) := by decide +kernel
theorem d1_14 : decode method_3_code 14 = .ok (.iconst 2, 1) := by decide +kernel
theorem d1_15 : decode method_3_code 15 = .ok (.if_icmp .ne 5, 3) := by decide +kernel
theorem d1_18 : decode method_3_code 18 = .ok (.iload_n 3, 1) := by decide +kernel
theorem d1_19 : decode method_3_code 19 = .ok (.ireturn, 1) := by decide +kernel
theorem d1_20 : decode method_3_code 20 = .ok (.iload 4, 2) := by decide +kernel
theorem d1_22 : decode method_3_code 22 = .ok (.ireturn, 1) := by decide +kernel
def f1_0 (x0 : Int32) (x1 : Int32) (x2 : Int32) (x3 : Int32) (x4 : Int32) : Int32 := (if x0 = (0 : Int32) then x1 else (if x0 = (1 : Int32) then x2 else (if x0 = (2 : Int32) then x3 else x4)))
set_option maxRecDepth 65536 in
set_option maxHeartbeats 40000000 in
theorem b1_0 {p : Program} {l : Launch} {e : Env} {s : State} {m : MethodId} {args : Array Value} {below : List Frame} {meth : Method} {c : Code} {Z : State} {a0 : Array Value} {h0 : Heap} {n0 : Nat} (hx : p.tables.exec = Jvm.exec) (hZ : Z.Warmed39 s.vm) (hw : ∀ d ∈ tables_1, d.before a0 Z = true) (hby : c.code = method_3_code) (hml : c.maxLocals = 5) (hown : s.vm.findClass "com/example/once_match/oncematch/PrefixRegisterStateAtEndPinLaw" = some m.cls) (hnm : meth.name = "pick") (hret : meth.sig.returnType = some .int) (hlk : meth.locks = false)  {T : State} {locs : List Loc} (x0 : Int32) (x1 : Int32) (x2 : Int32) (x3 : Int32) (x4 : Int32) (r : Int32) (X : Stand p l e ({ frames := 0, cells := 0, slots := 0, locals := 0 } : Room) s m args below meth c T locs 0 0) (eT : T.heap = h0) (N : Fr n0 locs) (Z0 : n0 ≤ h0.size) (hr : f1_0 x0 x1 x2 x3 x4 = r) :
    OG p e below s (fun v h L => v = (some (.int r)) ∧ Fr n0 L ∧ h = h0) 0 0 T (mkF m 0 #[.val (.int x0), .val (.int x1), .val (.int x2), .val (.int x3), .val (.int x4)] []) := by
  have hr : (if x0 = (0 : Int32) then x1 else (if x0 = (1 : Int32) then x2 else (if x0 = (2 : Int32) then x3 else x4))) = r := hr
  refine o_iload_n X hx (hb hby d1_0) rfl (pc' := 1) rfl ?_
  by_cases hc1 : x0 = (0 : Int32)
  · rw [if_pos hc1] at hr
    refine o_ifNo X hx (hb hby d1_1) (z_teq hc1).2 (pc' := 4) rfl ?_
    refine o_iload_n X hx (hb hby d1_4) rfl (pc' := 5) rfl ?_
    subst hr
    exact o_retI X hx hlk hret (hb hby d1_5) ⟨rfl, N, eT⟩ (by decide) (by decide)
  · rw [if_neg hc1] at hr
    refine o_ifYes X hx (hb hby d1_1) (z_feq hc1).2 (pc' := 6) (by decide) (by decide) ?_
    refine o_iload_n X hx (hb hby d1_6) rfl (pc' := 7) rfl ?_
    refine o_iconst X hx (hb hby d1_7) (1 : Int32) rfl (pc' := 8) rfl ?_
    by_cases hc2 : x0 = (1 : Int32)
    · rw [if_pos hc2] at hr
      refine o_icmpNo X hx (hb hby d1_8) (c_teq hc2).2 (pc' := 11) rfl ?_
      refine o_iload_n X hx (hb hby d1_11) rfl (pc' := 12) rfl ?_
      subst hr
      exact o_retI X hx hlk hret (hb hby d1_12) ⟨rfl, N, eT⟩ (by decide) (by decide)
    · rw [if_neg hc2] at hr
      refine o_icmpYes X hx (hb hby d1_8) (c_feq hc2).2 (pc' := 13) (by decide) (by decide) ?_
      refine o_iload_n X hx (hb hby d1_13) rfl (pc' := 14) rfl ?_
      refine o_iconst X hx (hb hby d1_14) (2 : Int32) rfl (pc' := 15) rfl ?_
      by_cases hc3 : x0 = (2 : Int32)
      · rw [if_pos hc3] at hr
        refine o_icmpNo X hx (hb hby d1_15) (c_teq hc3).2 (pc' := 18) rfl ?_
        refine o_iload_n X hx (hb hby d1_18) rfl (pc' := 19) rfl ?_
        subst hr
        exact o_retI X hx hlk hret (hb hby d1_19) ⟨rfl, N, eT⟩ (by decide) (by decide)
      · rw [if_neg hc3] at hr
        refine o_icmpYes X hx (hb hby d1_15) (c_feq hc3).2 (pc' := 20) (by decide) (by decide) ?_
        refine o_iload X hx (hb hby d1_20) rfl (pc' := 22) rfl ?_
        subst hr
        exact o_retI X hx hlk hret (hb hby d1_22) ⟨rfl, N, eT⟩ (by decide) (by decide)
theorem pn_1 : plainName "com/example/once_match/oncematch/PrefixRegisterStateAtEndPinLaw" = true := by first | (simp [plainName, overriddenIn]; done) | decide +kernel
theorem ef_1 (m : MethodId) (x0 : Int32) (x1 : Int32) (x2 : Int32) (x3 : Int32) (x4 : Int32) : entryFrame m #[(.int x0), (.int x1), (.int x2), (.int x3), (.int x4)] 5 = (mkF m 0 #[.val (.int x0), .val (.int x1), .val (.int x2), .val (.int x3), .val (.int x4)] []) := by first | (simp [entryFrame, mkF, argsToLocals, Value.category]; done) | rfl
def Qd1 (Z : State) (h0 : Heap) (n0 : Nat) (x0 : Int32) (x1 : Int32) (x2 : Int32) (x3 : Int32) (x4 : Int32) (r : Int32) : Option Value → Heap → List Loc → Prop := (fun v h L => v = (some (.int r)) ∧ Fr n0 L ∧ h = h0)
set_option maxRecDepth 65536 in
set_option maxHeartbeats 40000000 in
theorem rm1 (l : Launch) (Z : State) (a0 : Array Value) (hw : ∀ d ∈ tables_1, d.before a0 Z = true) (ws : List Jvm.Cond) (x0 : Int32) (x1 : Int32) (x2 : Int32) (x3 : Int32) (x4 : Int32) (h0 : Heap) (n0 : Nat) (Z0 : n0 ≤ h0.size) (r : Int32) (hr : f1_0 x0 x1 x2 x3 x4 = r) :
    MetFree l (⟨"com/example/once_match/oncematch/PrefixRegisterStateAtEndPinLaw", "pick", "(IIIII)I"⟩ : MethodName) (head1 (Jvm.Cond.code (⟨"com/example/once_match/oncematch/PrefixRegisterStateAtEndPinLaw", "pick", "(IIIII)I"⟩ : MethodName) method_3_code 5 (some .int) :: ws) ({ frames := 0, cells := 0, slots := 0, locals := 0 } : Room)) (fun a U => a = #[(.int x0), (.int x1), (.int x2), (.int x3), (.int x4)] ∧ Z.Warmed39 U.vm ∧ U.heap = h0) (fun _ _ _ _ _ => True) (fun _ U o U' => ∃ v L, o = .returned v ∧ (Qd1 Z h0 n0 x0 x1 x2 x3 x4 r) v U'.heap L ∧ FrameEnd U o U' L ({ frames := 0, cells := 0, slots := 0, locals := 0 } : Room).cells ({ frames := 0, cells := 0, slots := 0, locals := 0 } : Room).slots) := by
  refine MetFree.of_bodySF (plainFor_of_name pn_1) hisR ?_
  intro p e s m args below meth c s₁ Bd hml0 hP hK
  obtain ⟨rfl, hZ, hh⟩ := hP
  have e0 : s₁.heap = h0 := by rw [← hh, Bd.state]; rfl
  exact OG.cast (ef_1 m x0 x1 x2 x3 x4) (b1_0 Bd.exec hZ hw Bd.bytes hml0 (findClass_of_methodNamed Bd.named) (name_of_methodNamed Bd.named Bd.method).1 Bd.returns Bd.notSynchronized x0 x1 x2 x3 x4 r (Stand.of_body Bd) e0 (Fr.nil n0) Z0 hr)
theorem d4_0 : decode jdk_29_method_69_code 0 = .ok (.iload_n 0, 1) := by decide +kernel
theorem d4_1 : decode jdk_29_method_69_code 1 = .ok (.iload_n 1, 1) := by decide +kernel
theorem d4_2 : decode jdk_29_method_69_code 2 = .ok (.if_icmp .gt 7, 3) := by decide +kernel
theorem d4_9 : decode jdk_29_method_69_code 9 = .ok (.iload_n 1, 1) := by decide +kernel
theorem d4_10 : decode jdk_29_method_69_code 10 = .ok (.ireturn, 1) := by decide +kernel
theorem d4_5 : decode jdk_29_method_69_code 5 = .ok (.iload_n 0, 1) := by decide +kernel
theorem d4_6 : decode jdk_29_method_69_code 6 = .ok (.goto 4, 3) := by decide +kernel
def f4_0 (x0 : Int32) (x1 : Int32) : Int32 := (if x1 < x0 then x1 else x0)
set_option maxRecDepth 65536 in
set_option maxHeartbeats 40000000 in
theorem b4_0 {p : Program} {l : Launch} {e : Env} {s : State} {m : MethodId} {args : Array Value} {below : List Frame} {meth : Method} {c : Code} {Z : State} {a0 : Array Value} {h0 : Heap} {n0 : Nat} (hx : p.tables.exec = Jvm.exec) (hZ : Z.Warmed39 s.vm) (hw : ∀ d ∈ tables_1, d.before a0 Z = true) (hby : c.code = jdk_29_method_69_code) (hml : c.maxLocals = 2) (hown : s.vm.findClass "java/lang/Math" = some m.cls) (hnm : meth.name = "min") (hret : meth.sig.returnType = some .int) (hlk : meth.locks = false)  {T : State} {locs : List Loc} (x0 : Int32) (x1 : Int32) (r : Int32) (X : Stand p l e ({ frames := 0, cells := 0, slots := 0, locals := 0 } : Room) s m args below meth c T locs 0 0) (eT : T.heap = h0) (N : Fr n0 locs) (Z0 : n0 ≤ h0.size) (hr : f4_0 x0 x1 = r) :
    OG p e below s (fun v h L => v = (some (.int r)) ∧ Fr n0 L ∧ h = h0) 0 0 T (mkF m 0 #[.val (.int x0), .val (.int x1)] []) := by
  have hr : (if x1 < x0 then x1 else x0) = r := hr
  refine o_iload_n X hx (hb hby d4_0) rfl (pc' := 1) rfl ?_
  refine o_iload_n X hx (hb hby d4_1) rfl (pc' := 2) rfl ?_
  by_cases hc1 : x1 < x0
  · rw [if_pos hc1] at hr
    refine o_icmpYes X hx (hb hby d4_2) (c_tgt hc1).1 (pc' := 9) (by decide) (by decide) ?_
    refine o_iload_n X hx (hb hby d4_9) rfl (pc' := 10) rfl ?_
    subst hr
    exact o_retI X hx hlk hret (hb hby d4_10) ⟨rfl, N, eT⟩ (by decide) (by decide)
  · rw [if_neg hc1] at hr
    refine o_icmpNo X hx (hb hby d4_2) (c_fgt hc1).1 (pc' := 5) rfl ?_
    refine o_iload_n X hx (hb hby d4_5) rfl (pc' := 6) rfl ?_
    refine o_goto X hx (hb hby d4_6) (pc' := 10) (by decide) (by decide) ?_
    subst hr
    exact o_retI X hx hlk hret (hb hby d4_10) ⟨rfl, N, eT⟩ (by decide) (by decide)
theorem ef_4 (m : MethodId) (x0 : Int32) (x1 : Int32) : entryFrame m #[(.int x0), (.int x1)] 2 = (mkF m 0 #[.val (.int x0), .val (.int x1)] []) := by first | (simp [entryFrame, mkF, argsToLocals, Value.category]; done) | rfl
def Qd4 (Z : State) (h0 : Heap) (n0 : Nat) (x0 : Int32) (x1 : Int32) (r : Int32) : Option Value → Heap → List Loc → Prop := (fun v h L => v = (some (.int r)) ∧ Fr n0 L ∧ h = h0)
set_option maxRecDepth 65536 in
set_option maxHeartbeats 40000000 in
theorem rm4 (l : Launch) (Z : State) (a0 : Array Value) (hw : ∀ d ∈ tables_1, d.before a0 Z = true) (ws : List Jvm.Cond) (x0 : Int32) (x1 : Int32) (h0 : Heap) (n0 : Nat) (Z0 : n0 ≤ h0.size) (r : Int32) (hr : f4_0 x0 x1 = r) :
    MetFree l (⟨"java/lang/Math", "min", "(II)I"⟩ : MethodName) (head1 (Jvm.Cond.code (⟨"java/lang/Math", "min", "(II)I"⟩ : MethodName) jdk_29_method_69_code 2 (some .int) :: ws) ({ frames := 0, cells := 0, slots := 0, locals := 0 } : Room)) (fun a U => a = #[(.int x0), (.int x1)] ∧ Z.Warmed39 U.vm ∧ U.heap = h0) (fun _ _ _ _ _ => True) (fun _ U o U' => ∃ v L, o = .returned v ∧ (Qd4 Z h0 n0 x0 x1 r) v U'.heap L ∧ FrameEnd U o U' L ({ frames := 0, cells := 0, slots := 0, locals := 0 } : Room).cells ({ frames := 0, cells := 0, slots := 0, locals := 0 } : Room).slots) := by
  refine MetFree.of_bodySF (Jvm.Free.JP.mathPlain rfl (by decide +kernel)) hisR ?_
  intro p e s m args below meth c s₁ Bd hml0 hP hK
  obtain ⟨rfl, hZ, hh⟩ := hP
  have e0 : s₁.heap = h0 := by rw [← hh, Bd.state]; rfl
  exact OG.cast (ef_4 m x0 x1) (b4_0 Bd.exec hZ hw Bd.bytes hml0 (findClass_of_methodNamed Bd.named) (name_of_methodNamed Bd.named Bd.method).1 Bd.returns Bd.notSynchronized x0 x1 r (Stand.of_body Bd) e0 (Fr.nil n0) Z0 hr)
theorem d5_0 : decode prog_29_method_2_code 0 = .ok (.iconst 0, 1) := by decide +kernel
theorem d5_1 : decode prog_29_method_2_code 1 = .ok (.istore_n 3, 1) := by decide +kernel
theorem d5_2 : decode prog_29_method_2_code 2 = .ok (.iload_n 3, 1) := by decide +kernel
theorem d5_3 : decode prog_29_method_2_code 3 = .ok (.aload_n 0, 1) := by decide +kernel
theorem d5_4 : decode prog_29_method_2_code 4 = .ok (.getfield 25, 3) := by decide +kernel
theorem d5_7 : decode prog_29_method_2_code 7 = .ok (.if_icmp .ge 18, 3) := by decide +kernel
theorem d5_10 : decode prog_29_method_2_code 10 = .ok (.aload_n 1, 1) := by decide +kernel
theorem d5_11 : decode prog_29_method_2_code 11 = .ok (.iload_n 3, 1) := by decide +kernel
theorem d5_12 : decode prog_29_method_2_code 12 = .ok (.caload, 1) := by decide +kernel
theorem d5_13 : decode prog_29_method_2_code 13 = .ok (.iload_n 2, 1) := by decide +kernel
theorem d5_14 : decode prog_29_method_2_code 14 = .ok (.if_icmp .ne 5, 3) := by decide +kernel
theorem d5_17 : decode prog_29_method_2_code 17 = .ok (.iconst 1, 1) := by decide +kernel
theorem d5_18 : decode prog_29_method_2_code 18 = .ok (.ireturn, 1) := by decide +kernel
theorem d5_19 : decode prog_29_method_2_code 19 = .ok (.iinc 3 1, 3) := by decide +kernel
theorem d5_22 : decode prog_29_method_2_code 22 = .ok (.goto (-20), 3) := by decide +kernel
theorem d5_25 : decode prog_29_method_2_code 25 = .ok (.iconst 0, 1) := by decide +kernel
theorem d5_26 : decode prog_29_method_2_code 26 = .ok (.ireturn, 1) := by decide +kernel
def f5_2 : Nat → Int32 → (Nat → Int32) → Nat → Int32 → Int32 → Option (Int32)
  | 0, _, _, _, _, _ => none
  | k + 1, u_length, c_o1, n_o1, x2, x3 => (if x3 < u_length then (if (¬ (x3 < 0) ∧ Int32.toNatClampNeg x3 < n_o1) then (if (c_o1 (Int32.toNatClampNeg x3)) = x2 then (some (1 : Int32)) else (f5_2 k u_length c_o1 n_o1 x2 (x3 + (1 : Int32)))) else none) else (some (0 : Int32)))
set_option maxRecDepth 65536 in
set_option maxHeartbeats 40000000 in
theorem b5_2 {p : Program} {l : Launch} {e : Env} {s : State} {m : MethodId} {args : Array Value} {below : List Frame} {meth : Method} {c : Code} {Z : State} {a0 : Array Value} {h0 : Heap} {n0 : Nat} (hx : p.tables.exec = Jvm.exec) (hZ : Z.Warmed39 s.vm) (hw : ∀ d ∈ tables_1, d.before a0 Z = true) (hby : c.code = prog_29_method_2_code) (hml : c.maxLocals = 4) (hown : s.vm.findClass "com/example/once_match/oncematch/PrefixRegister" = some m.cls) (hnm : meth.name = "takesValue") (hret : meth.sig.returnType = some .boolean) (hlk : meth.locks = false) (o0 : Addr) (o1 : Addr) : ∀ (k : Nat) {T : State} {locs : List Loc} (u_length : Int32) (c_o1 : Nat → Int32) (n_o1 : Nat) (x2 : Int32) (x3 : Int32) (r : Int32) (X : Stand p l e ({ frames := 0, cells := 0, slots := 0, locals := 0 } : Room) s m args below meth c T locs 0 0) (eT : T.heap = h0) (N : Fr n0 locs) (Z0 : n0 ≤ h0.size) (E_o0 : Exa Z h0 o0 "com/example/once_match/oncematch/PrefixRegister") (F_o0_length : Fld Z h0 o0 "com/example/once_match/oncematch/PrefixRegister" "length" "I" (.int u_length)) (A_o1 : OAr Z h0 o1 .char n_o1 (ci c_o1)) (hr : f5_2 k u_length c_o1 n_o1 x2 x3 = some r),
    OG p e below s (fun v h L => v = (some (.int r)) ∧ Fr n0 L ∧ h = h0) 0 0 T (mkF m 2 #[.val (.ref o0), .val (.ref o1), .val (.int x2), .val (.int x3)] []) := by
  intro k
  induction k with
  | zero => intros; rename_i hr; exact absurd hr (by intro q; cases q)
  | succ k ih =>
    intro T locs u_length c_o1 n_o1 x2 x3 r X eT N Z0 E_o0 F_o0_length A_o1 hr
    have hr : (if x3 < u_length then (if (¬ (x3 < 0) ∧ Int32.toNatClampNeg x3 < n_o1) then (if (c_o1 (Int32.toNatClampNeg x3)) = x2 then (some (1 : Int32)) else (f5_2 k u_length c_o1 n_o1 x2 (x3 + (1 : Int32)))) else none) else (some (0 : Int32))) = some r := hr
    refine o_iload_n X hx (hb hby d5_2) rfl (pc' := 3) rfl ?_
    refine o_aload_n X hx (hb hby d5_3) rfl rfl (pc' := 4) rfl ?_
    refine o_getF X hx hZ hown eT (hw _ (List.mem_of_getElem? (i := 21) rfl)) Via.refl F_o0_length (hb hby d5_4) (pc' := 7) rfl ?_
    intro T1 X1 e1
    by_cases hc2 : x3 < u_length
    · rw [if_pos hc2] at hr
      refine o_icmpNo X1 hx (hb hby d5_7) (c_tlt hc2).2 (pc' := 10) rfl ?_
      refine o_aload_n X1 hx (hb hby d5_10) rfl rfl (pc' := 11) rfl ?_
      refine o_iload_n X1 hx (hb hby d5_11) rfl (pc' := 12) rfl ?_
      by_cases hg3 : (¬ (x3 < 0) ∧ Int32.toNatClampNeg x3 < n_o1)
      case neg => rw [if_neg hg3] at hr; cases hr
      rw [if_pos hg3] at hr
      refine o_caload X1 hx hZ e1 A_o1 (hb hby d5_12) (And.left hg3) (And.right hg3) (c_o1 (Int32.toNatClampNeg x3)) rfl (pc' := 13) rfl ?_
      refine o_iload_n X1 hx (hb hby d5_13) rfl (pc' := 14) rfl ?_
      by_cases hc4 : (c_o1 (Int32.toNatClampNeg x3)) = x2
      · rw [if_pos hc4] at hr
        refine o_icmpNo X1 hx (hb hby d5_14) (c_teq hc4).2 (pc' := 17) rfl ?_
        refine o_iconst X1 hx (hb hby d5_17) (1 : Int32) rfl (pc' := 18) rfl ?_
        obtain rfl : (1 : Int32) = r := Option.some.inj hr
        exact o_retN X1 hx hlk (t := .boolean) (by simp) hret (hb hby d5_18) rfl ⟨rfl, N, e1⟩ (by decide) (by decide)
      · rw [if_neg hc4] at hr
        refine o_icmpYes X1 hx (hb hby d5_14) (c_feq hc4).2 (pc' := 19) (by decide) (by decide) ?_
        refine o_iinc X1 hx (hb hby d5_19) (1 : Int32) rfl rfl #[.val (.ref o0), .val (.ref o1), .val (.int x2), .val (.int (x3 + (1 : Int32)))] rfl (pc' := 22) rfl ?_
        refine o_goto X1 hx (hb hby d5_22) (pc' := 2) (by decide) (by decide) ?_
        exact ih u_length c_o1 n_o1 x2 (x3 + (1 : Int32)) r X1 e1 N Z0 E_o0 F_o0_length A_o1 hr
    · rw [if_neg hc2] at hr
      refine o_icmpYes X1 hx (hb hby d5_7) (c_flt hc2).2 (pc' := 25) (by decide) (by decide) ?_
      refine o_iconst X1 hx (hb hby d5_25) (0 : Int32) rfl (pc' := 26) rfl ?_
      obtain rfl : (0 : Int32) = r := Option.some.inj hr
      exact o_retN X1 hx hlk (t := .boolean) (by simp) hret (hb hby d5_26) rfl ⟨rfl, N, e1⟩ (by decide) (by decide)
def f5_0 (u_length : Int32) (c_o1 : (Nat → Int32)) (n_o1 : Nat) (x2 : Int32) : Option (Int32) := (f5_2 5 u_length c_o1 n_o1 x2 (0 : Int32))
set_option maxRecDepth 65536 in
set_option maxHeartbeats 40000000 in
theorem b5_0 {p : Program} {l : Launch} {e : Env} {s : State} {m : MethodId} {args : Array Value} {below : List Frame} {meth : Method} {c : Code} {Z : State} {a0 : Array Value} {h0 : Heap} {n0 : Nat} (hx : p.tables.exec = Jvm.exec) (hZ : Z.Warmed39 s.vm) (hw : ∀ d ∈ tables_1, d.before a0 Z = true) (hby : c.code = prog_29_method_2_code) (hml : c.maxLocals = 4) (hown : s.vm.findClass "com/example/once_match/oncematch/PrefixRegister" = some m.cls) (hnm : meth.name = "takesValue") (hret : meth.sig.returnType = some .boolean) (hlk : meth.locks = false) (o0 : Addr) (o1 : Addr) {T : State} {locs : List Loc} (u_length : Int32) (c_o1 : Nat → Int32) (n_o1 : Nat) (x2 : Int32) (r : Int32) (X : Stand p l e ({ frames := 0, cells := 0, slots := 0, locals := 0 } : Room) s m args below meth c T locs 0 0) (eT : T.heap = h0) (N : Fr n0 locs) (Z0 : n0 ≤ h0.size) (E_o0 : Exa Z h0 o0 "com/example/once_match/oncematch/PrefixRegister") (F_o0_length : Fld Z h0 o0 "com/example/once_match/oncematch/PrefixRegister" "length" "I" (.int u_length)) (A_o1 : OAr Z h0 o1 .char n_o1 (ci c_o1)) (hr : f5_0 u_length c_o1 n_o1 x2 = some r) :
    OG p e below s (fun v h L => v = (some (.int r)) ∧ Fr n0 L ∧ h = h0) 0 0 T (mkF m 0 #[.val (.ref o0), .val (.ref o1), .val (.int x2), .unset] []) := by
  have hr : (f5_2 5 u_length c_o1 n_o1 x2 (0 : Int32)) = some r := hr
  refine o_iconst X hx (hb hby d5_0) (0 : Int32) rfl (pc' := 1) rfl ?_
  refine o_istore_n X hx (hb hby d5_1) #[.val (.ref o0), .val (.ref o1), .val (.int x2), .val (.int (0 : Int32))] rfl (pc' := 2) rfl ?_
  exact b5_2 hx hZ hw hby hml hown hnm hret hlk o0 o1 5 u_length c_o1 n_o1 x2 (0 : Int32) r X eT N Z0 E_o0 F_o0_length A_o1 hr
theorem pn_5 : plainName "com/example/once_match/oncematch/PrefixRegister" = true := by first | (simp [plainName, overriddenIn]; done) | decide +kernel
theorem ef_5 (m : MethodId) (o0 : Addr) (o1 : Addr) (x2 : Int32) : entryFrame m #[(.ref o0), (.ref o1), (.int x2)] 4 = (mkF m 0 #[.val (.ref o0), .val (.ref o1), .val (.int x2), .unset] []) := by first | (simp [entryFrame, mkF, argsToLocals, Value.category]; done) | rfl
def Qd5 (Z : State) (h0 : Heap) (n0 : Nat) (o0 : Addr) (o1 : Addr) (x2 : Int32) (u_length : Int32) (c_o1 : Nat → Int32) (n_o1 : Nat) (r : Int32) : Option Value → Heap → List Loc → Prop := (fun v h L => v = (some (.int r)) ∧ Fr n0 L ∧ h = h0)
set_option maxRecDepth 65536 in
set_option maxHeartbeats 40000000 in
theorem rm5 (l : Launch) (Z : State) (a0 : Array Value) (hw : ∀ d ∈ tables_1, d.before a0 Z = true) (ws : List Jvm.Cond) (o0 : Addr) (o1 : Addr) (x2 : Int32) (u_length : Int32) (c_o1 : Nat → Int32) (n_o1 : Nat) (h0 : Heap) (n0 : Nat) (Z0 : n0 ≤ h0.size) (E_o0 : Exa Z h0 o0 "com/example/once_match/oncematch/PrefixRegister") (F_o0_length : Fld Z h0 o0 "com/example/once_match/oncematch/PrefixRegister" "length" "I" (.int u_length)) (A_o1 : OAr Z h0 o1 .char n_o1 (ci c_o1)) (r : Int32) (hr : f5_0 u_length c_o1 n_o1 x2 = some r) :
    MetFree l (⟨"com/example/once_match/oncematch/PrefixRegister", "takesValue", "([CI)Z"⟩ : MethodName) (head1 (Jvm.Cond.code (⟨"com/example/once_match/oncematch/PrefixRegister", "takesValue", "([CI)Z"⟩ : MethodName) prog_29_method_2_code 4 (some .boolean) :: ws) ({ frames := 0, cells := 0, slots := 0, locals := 0 } : Room)) (fun a U => a = #[(.ref o0), (.ref o1), (.int x2)] ∧ Z.Warmed39 U.vm ∧ U.heap = h0) (fun _ _ _ _ _ => True) (fun _ U o U' => ∃ v L, o = .returned v ∧ (Qd5 Z h0 n0 o0 o1 x2 u_length c_o1 n_o1 r) v U'.heap L ∧ FrameEnd U o U' L ({ frames := 0, cells := 0, slots := 0, locals := 0 } : Room).cells ({ frames := 0, cells := 0, slots := 0, locals := 0 } : Room).slots) := by
  refine MetFree.of_bodySF (plainFor_of_name pn_5) hisR ?_
  intro p e s m args below meth c s₁ Bd hml0 hP hK
  obtain ⟨rfl, hZ, hh⟩ := hP
  have e0 : s₁.heap = h0 := by rw [← hh, Bd.state]; rfl
  exact OG.cast (ef_5 m o0 o1 x2) (b5_0 Bd.exec hZ hw Bd.bytes hml0 (findClass_of_methodNamed Bd.named) (name_of_methodNamed Bd.named Bd.method).1 Bd.returns Bd.notSynchronized o0 o1 u_length c_o1 n_o1 x2 r (Stand.of_body Bd) e0 (Fr.nil n0) Z0 E_o0 F_o0_length A_o1 hr)
theorem d6_0 : decode prog_29_method_3_code 0 = .ok (.lconst 0, 1) := by decide +kernel
theorem d6_1 : decode prog_29_method_3_code 1 = .ok (.lstore_n 3, 1) := by decide +kernel
theorem d6_2 : decode prog_29_method_3_code 2 = .ok (.iconst 0, 1) := by decide +kernel
theorem d6_3 : decode prog_29_method_3_code 3 = .ok (.istore 5, 2) := by decide +kernel
theorem d6_5 : decode prog_29_method_3_code 5 = .ok (.iload 5, 2) := by decide +kernel
theorem d6_7 : decode prog_29_method_3_code 7 = .ok (.aload_n 0, 1) := by decide +kernel
theorem d6_8 : decode prog_29_method_3_code 8 = .ok (.getfield 25, 3) := by decide +kernel
theorem d6_11 : decode prog_29_method_3_code 11 = .ok (.if_icmp .ge 45, 3) := by decide +kernel
theorem d6_14 : decode prog_29_method_3_code 14 = .ok (.iload 5, 2) := by decide +kernel
theorem d6_16 : decode prog_29_method_3_code 16 = .ok (.aload_n 0, 1) := by decide +kernel
theorem d6_17 : decode prog_29_method_3_code 17 = .ok (.getfield 25, 3) := by decide +kernel
theorem d6_20 : decode prog_29_method_3_code 20 = .ok (.iload_n 2, 1) := by decide +kernel
theorem d6_21 : decode prog_29_method_3_code 21 = .ok (.isub, 1) := by decide +kernel
theorem d6_22 : decode prog_29_method_3_code 22 = .ok (.isub, 1) := by decide +kernel
theorem d6_23 : decode prog_29_method_3_code 23 = .ok (.istore 6, 2) := by decide +kernel
theorem d6_25 : decode prog_29_method_3_code 25 = .ok (.lload_n 3, 1) := by decide +kernel
theorem d6_26 : decode prog_29_method_3_code 26 = .ok (.aload_n 0, 1) := by decide +kernel
theorem d6_27 : decode prog_29_method_3_code 27 = .ok (.getfield 21, 3) := by decide +kernel
theorem d6_30 : decode prog_29_method_3_code 30 = .ok (.lshl, 1) := by decide +kernel
theorem d6_31 : decode prog_29_method_3_code 31 = .ok (.iload 6, 2) := by decide +kernel
theorem d6_33 : decode prog_29_method_3_code 33 = .ok (.ifCond .ge 10, 3) := by decide +kernel
theorem d6_36 : decode prog_29_method_3_code 36 = .ok (.aload_n 0, 1) := by decide +kernel
theorem d6_37 : decode prog_29_method_3_code 37 = .ok (.getfield 35, 3) := by decide +kernel
theorem d6_40 : decode prog_29_method_3_code 40 = .ok (.goto 7, 3) := by decide +kernel
theorem d6_47 : decode prog_29_method_3_code 47 = .ok (.i2l, 1) := by decide +kernel
theorem d6_48 : decode prog_29_method_3_code 48 = .ok (.lor, 1) := by decide +kernel
theorem d6_49 : decode prog_29_method_3_code 49 = .ok (.lstore_n 3, 1) := by decide +kernel
theorem d6_50 : decode prog_29_method_3_code 50 = .ok (.iinc 5 1, 3) := by decide +kernel
theorem d6_53 : decode prog_29_method_3_code 53 = .ok (.goto (-48), 3) := by decide +kernel
theorem d6_43 : decode prog_29_method_3_code 43 = .ok (.aload_n 1, 1) := by decide +kernel
theorem d6_44 : decode prog_29_method_3_code 44 = .ok (.iload 6, 2) := by decide +kernel
theorem d6_46 : decode prog_29_method_3_code 46 = .ok (.caload, 1) := by decide +kernel
theorem d6_56 : decode prog_29_method_3_code 56 = .ok (.lload_n 3, 1) := by decide +kernel
theorem d6_57 : decode prog_29_method_3_code 57 = .ok (.lreturn, 1) := by decide +kernel
def f6_5a : Nat → Int32 → Int32 → Int32 → (Nat → Int32) → Nat → Int32 → Int64 → Int32 → Option (Int64)
  | 0, _, _, _, _, _, _, _, _ => none
  | k + 1, u_length, u_lane, u_filler, c_o1, n_o1, x2, x3, x5 => (if x5 < u_length then (if (x5 - (u_length - x2)) < (0 : Int32) then (f6_5a k u_length u_lane u_filler c_o1 n_o1 x2 ((x3 <<< (u_lane &&& 0x3f).toInt64) ||| (u_filler.toInt64)) (x5 + (1 : Int32))) else (if (¬ ((x5 - (u_length - x2)) < 0) ∧ Int32.toNatClampNeg (x5 - (u_length - x2)) < n_o1) then (f6_5a k u_length u_lane u_filler c_o1 n_o1 x2 ((x3 <<< (u_lane &&& 0x3f).toInt64) ||| ((c_o1 (Int32.toNatClampNeg (x5 - (u_length - x2)))).toInt64)) (x5 + (1 : Int32))) else none)) else (some x3))
set_option maxRecDepth 65536 in
set_option maxHeartbeats 40000000 in
theorem b6_5a {p : Program} {l : Launch} {e : Env} {s : State} {m : MethodId} {args : Array Value} {below : List Frame} {meth : Method} {c : Code} {Z : State} {a0 : Array Value} {h0 : Heap} {n0 : Nat} (hx : p.tables.exec = Jvm.exec) (hZ : Z.Warmed39 s.vm) (hw : ∀ d ∈ tables_1, d.before a0 Z = true) (hby : c.code = prog_29_method_3_code) (hml : c.maxLocals = 7) (hown : s.vm.findClass "com/example/once_match/oncematch/PrefixRegister" = some m.cls) (hnm : meth.name = "lanes") (hret : meth.sig.returnType = some .long) (hlk : meth.locks = false) (o0 : Addr) (o1 : Addr) : ∀ (k : Nat) {T : State} {locs : List Loc} (u_length : Int32) (u_lane : Int32) (u_filler : Int32) (c_o1 : Nat → Int32) (n_o1 : Nat) (x2 : Int32) (x3 : Int64) (x5 : Int32) (d6 : Int32) (r : Int64) (X : Stand p l e ({ frames := 0, cells := 0, slots := 0, locals := 0 } : Room) s m args below meth c T locs 0 0) (eT : T.heap = h0) (N : Fr n0 locs) (Z0 : n0 ≤ h0.size) (E_o0 : Exa Z h0 o0 "com/example/once_match/oncematch/PrefixRegister") (F_o0_length : Fld Z h0 o0 "com/example/once_match/oncematch/PrefixRegister" "length" "I" (.int u_length)) (F_o0_lane : Fld Z h0 o0 "com/example/once_match/oncematch/PrefixRegister" "lane" "I" (.int u_lane)) (F_o0_filler : Fld Z h0 o0 "com/example/once_match/oncematch/PrefixRegister" "filler" "I" (.int u_filler)) (A_o1 : OAr Z h0 o1 .char n_o1 (ci c_o1)) (hr : f6_5a k u_length u_lane u_filler c_o1 n_o1 x2 x3 x5 = some r),
    OG p e below s (fun v h L => v = (some (.long r)) ∧ Fr n0 L ∧ h = h0) 0 0 T (mkF m 5 #[.val (.ref o0), .val (.ref o1), .val (.int x2), .val (.long x3), .second, .val (.int x5), .val (.int d6)] []) := by
  intro k
  induction k with
  | zero => intros; rename_i hr; exact absurd hr (by intro q; cases q)
  | succ k ih =>
    intro T locs u_length u_lane u_filler c_o1 n_o1 x2 x3 x5 d6 r X eT N Z0 E_o0 F_o0_length F_o0_lane F_o0_filler A_o1 hr
    have hr : (if x5 < u_length then (if (x5 - (u_length - x2)) < (0 : Int32) then (f6_5a k u_length u_lane u_filler c_o1 n_o1 x2 ((x3 <<< (u_lane &&& 0x3f).toInt64) ||| (u_filler.toInt64)) (x5 + (1 : Int32))) else (if (¬ ((x5 - (u_length - x2)) < 0) ∧ Int32.toNatClampNeg (x5 - (u_length - x2)) < n_o1) then (f6_5a k u_length u_lane u_filler c_o1 n_o1 x2 ((x3 <<< (u_lane &&& 0x3f).toInt64) ||| ((c_o1 (Int32.toNatClampNeg (x5 - (u_length - x2)))).toInt64)) (x5 + (1 : Int32))) else none)) else (some x3)) = some r := hr
    refine o_iload X hx (hb hby d6_5) rfl (pc' := 7) rfl ?_
    refine o_aload_n X hx (hb hby d6_7) rfl rfl (pc' := 8) rfl ?_
    refine o_getF X hx hZ hown eT (hw _ (List.mem_of_getElem? (i := 21) rfl)) Via.refl F_o0_length (hb hby d6_8) (pc' := 11) rfl ?_
    intro T7 X7 e7
    by_cases hc8 : x5 < u_length
    · rw [if_pos hc8] at hr
      refine o_icmpNo X7 hx (hb hby d6_11) (c_tlt hc8).2 (pc' := 14) rfl ?_
      refine o_iload X7 hx (hb hby d6_14) rfl (pc' := 16) rfl ?_
      refine o_aload_n X7 hx (hb hby d6_16) rfl rfl (pc' := 17) rfl ?_
      refine o_getF X7 hx hZ hown e7 (hw _ (List.mem_of_getElem? (i := 21) rfl)) Via.refl F_o0_length (hb hby d6_17) (pc' := 20) rfl ?_
      intro T9 X9 e9
      refine o_iload_n X9 hx (hb hby d6_20) rfl (pc' := 21) rfl ?_
      refine o_isub X9 hx (hb hby d6_21) (pc' := 22) rfl ?_
      refine o_isub X9 hx (hb hby d6_22) (pc' := 23) rfl ?_
      refine o_istore X9 hx (hb hby d6_23) #[.val (.ref o0), .val (.ref o1), .val (.int x2), .val (.long x3), .second, .val (.int x5), .val (.int (x5 - (u_length - x2)))] rfl (pc' := 25) rfl ?_
      refine o_lload_n X9 hx (hb hby d6_25) rfl (pc' := 26) rfl ?_
      refine o_aload_n X9 hx (hb hby d6_26) rfl rfl (pc' := 27) rfl ?_
      refine o_getF X9 hx hZ hown e9 (hw _ (List.mem_of_getElem? (i := 19) rfl)) Via.refl F_o0_lane (hb hby d6_27) (pc' := 30) rfl ?_
      intro T10 X10 e10
      refine o_lshl X10 hx (hb hby d6_30) (pc' := 31) rfl ?_
      refine o_iload X10 hx (hb hby d6_31) rfl (pc' := 33) rfl ?_
      by_cases hc11 : (x5 - (u_length - x2)) < (0 : Int32)
      · rw [if_pos hc11] at hr
        refine o_ifNo X10 hx (hb hby d6_33) (z_tlt hc11).2 (pc' := 36) rfl ?_
        refine o_aload_n X10 hx (hb hby d6_36) rfl rfl (pc' := 37) rfl ?_
        refine o_getF X10 hx hZ hown e10 (hw _ (List.mem_of_getElem? (i := 29) rfl)) Via.refl F_o0_filler (hb hby d6_37) (pc' := 40) rfl ?_
        intro T12 X12 e12
        refine o_goto X12 hx (hb hby d6_40) (pc' := 47) (by decide) (by decide) ?_
        refine o_i2l X12 hx (hb hby d6_47) (pc' := 48) rfl ?_
        refine o_lor X12 hx (hb hby d6_48) (pc' := 49) rfl ?_
        refine o_lstore_n X12 hx (hb hby d6_49) #[.val (.ref o0), .val (.ref o1), .val (.int x2), .val (.long ((x3 <<< (u_lane &&& 0x3f).toInt64) ||| (u_filler.toInt64))), .second, .val (.int x5), .val (.int (x5 - (u_length - x2)))] rfl (pc' := 50) rfl ?_
        refine o_iinc X12 hx (hb hby d6_50) (1 : Int32) rfl rfl #[.val (.ref o0), .val (.ref o1), .val (.int x2), .val (.long ((x3 <<< (u_lane &&& 0x3f).toInt64) ||| (u_filler.toInt64))), .second, .val (.int (x5 + (1 : Int32))), .val (.int (x5 - (u_length - x2)))] rfl (pc' := 53) rfl ?_
        refine o_goto X12 hx (hb hby d6_53) (pc' := 5) (by decide) (by decide) ?_
        exact ih u_length u_lane u_filler c_o1 n_o1 x2 ((x3 <<< (u_lane &&& 0x3f).toInt64) ||| (u_filler.toInt64)) (x5 + (1 : Int32)) (x5 - (u_length - x2)) r X12 e12 N Z0 E_o0 F_o0_length F_o0_lane F_o0_filler A_o1 hr
      · rw [if_neg hc11] at hr
        refine o_ifYes X10 hx (hb hby d6_33) (z_flt hc11).2 (pc' := 43) (by decide) (by decide) ?_
        refine o_aload_n X10 hx (hb hby d6_43) rfl rfl (pc' := 44) rfl ?_
        refine o_iload X10 hx (hb hby d6_44) rfl (pc' := 46) rfl ?_
        by_cases hg13 : (¬ ((x5 - (u_length - x2)) < 0) ∧ Int32.toNatClampNeg (x5 - (u_length - x2)) < n_o1)
        case neg => rw [if_neg hg13] at hr; cases hr
        rw [if_pos hg13] at hr
        refine o_caload X10 hx hZ e10 A_o1 (hb hby d6_46) (And.left hg13) (And.right hg13) (c_o1 (Int32.toNatClampNeg (x5 - (u_length - x2)))) rfl (pc' := 47) rfl ?_
        refine o_i2l X10 hx (hb hby d6_47) (pc' := 48) rfl ?_
        refine o_lor X10 hx (hb hby d6_48) (pc' := 49) rfl ?_
        refine o_lstore_n X10 hx (hb hby d6_49) #[.val (.ref o0), .val (.ref o1), .val (.int x2), .val (.long ((x3 <<< (u_lane &&& 0x3f).toInt64) ||| ((c_o1 (Int32.toNatClampNeg (x5 - (u_length - x2)))).toInt64))), .second, .val (.int x5), .val (.int (x5 - (u_length - x2)))] rfl (pc' := 50) rfl ?_
        refine o_iinc X10 hx (hb hby d6_50) (1 : Int32) rfl rfl #[.val (.ref o0), .val (.ref o1), .val (.int x2), .val (.long ((x3 <<< (u_lane &&& 0x3f).toInt64) ||| ((c_o1 (Int32.toNatClampNeg (x5 - (u_length - x2)))).toInt64))), .second, .val (.int (x5 + (1 : Int32))), .val (.int (x5 - (u_length - x2)))] rfl (pc' := 53) rfl ?_
        refine o_goto X10 hx (hb hby d6_53) (pc' := 5) (by decide) (by decide) ?_
        exact ih u_length u_lane u_filler c_o1 n_o1 x2 ((x3 <<< (u_lane &&& 0x3f).toInt64) ||| ((c_o1 (Int32.toNatClampNeg (x5 - (u_length - x2)))).toInt64)) (x5 + (1 : Int32)) (x5 - (u_length - x2)) r X10 e10 N Z0 E_o0 F_o0_length F_o0_lane F_o0_filler A_o1 hr
    · rw [if_neg hc8] at hr
      refine o_icmpYes X7 hx (hb hby d6_11) (c_flt hc8).2 (pc' := 56) (by decide) (by decide) ?_
      refine o_lload_n X7 hx (hb hby d6_56) rfl (pc' := 57) rfl ?_
      obtain rfl : x3 = r := Option.some.inj hr
      exact o_retJ X7 hx hlk hret (hb hby d6_57) ⟨rfl, N, e7⟩ (by decide) (by decide)
def f6_5 : Nat → Int32 → Int32 → Int32 → (Nat → Int32) → Nat → Int32 → Int64 → Int32 → Option (Int64)
  | 0, _, _, _, _, _, _, _, _ => none
  | k + 1, u_length, u_lane, u_filler, c_o1, n_o1, x2, x3, x5 => (if x5 < u_length then (if (x5 - (u_length - x2)) < (0 : Int32) then (f6_5a k u_length u_lane u_filler c_o1 n_o1 x2 ((x3 <<< (u_lane &&& 0x3f).toInt64) ||| (u_filler.toInt64)) (x5 + (1 : Int32))) else (if (¬ ((x5 - (u_length - x2)) < 0) ∧ Int32.toNatClampNeg (x5 - (u_length - x2)) < n_o1) then (f6_5a k u_length u_lane u_filler c_o1 n_o1 x2 ((x3 <<< (u_lane &&& 0x3f).toInt64) ||| ((c_o1 (Int32.toNatClampNeg (x5 - (u_length - x2)))).toInt64)) (x5 + (1 : Int32))) else none)) else (some x3))
set_option maxRecDepth 65536 in
set_option maxHeartbeats 40000000 in
theorem b6_5 {p : Program} {l : Launch} {e : Env} {s : State} {m : MethodId} {args : Array Value} {below : List Frame} {meth : Method} {c : Code} {Z : State} {a0 : Array Value} {h0 : Heap} {n0 : Nat} (hx : p.tables.exec = Jvm.exec) (hZ : Z.Warmed39 s.vm) (hw : ∀ d ∈ tables_1, d.before a0 Z = true) (hby : c.code = prog_29_method_3_code) (hml : c.maxLocals = 7) (hown : s.vm.findClass "com/example/once_match/oncematch/PrefixRegister" = some m.cls) (hnm : meth.name = "lanes") (hret : meth.sig.returnType = some .long) (hlk : meth.locks = false) (o0 : Addr) (o1 : Addr) : ∀ (k : Nat) {T : State} {locs : List Loc} (u_length : Int32) (u_lane : Int32) (u_filler : Int32) (c_o1 : Nat → Int32) (n_o1 : Nat) (x2 : Int32) (x3 : Int64) (x5 : Int32) (r : Int64) (X : Stand p l e ({ frames := 0, cells := 0, slots := 0, locals := 0 } : Room) s m args below meth c T locs 0 0) (eT : T.heap = h0) (N : Fr n0 locs) (Z0 : n0 ≤ h0.size) (E_o0 : Exa Z h0 o0 "com/example/once_match/oncematch/PrefixRegister") (F_o0_length : Fld Z h0 o0 "com/example/once_match/oncematch/PrefixRegister" "length" "I" (.int u_length)) (F_o0_lane : Fld Z h0 o0 "com/example/once_match/oncematch/PrefixRegister" "lane" "I" (.int u_lane)) (F_o0_filler : Fld Z h0 o0 "com/example/once_match/oncematch/PrefixRegister" "filler" "I" (.int u_filler)) (A_o1 : OAr Z h0 o1 .char n_o1 (ci c_o1)) (hr : f6_5 k u_length u_lane u_filler c_o1 n_o1 x2 x3 x5 = some r),
    OG p e below s (fun v h L => v = (some (.long r)) ∧ Fr n0 L ∧ h = h0) 0 0 T (mkF m 5 #[.val (.ref o0), .val (.ref o1), .val (.int x2), .val (.long x3), .second, .val (.int x5), .unset] []) := by
  intro k
  induction k with
  | zero => intros; rename_i hr; exact absurd hr (by intro q; cases q)
  | succ k ih =>
    intro T locs u_length u_lane u_filler c_o1 n_o1 x2 x3 x5 r X eT N Z0 E_o0 F_o0_length F_o0_lane F_o0_filler A_o1 hr
    have hr : (if x5 < u_length then (if (x5 - (u_length - x2)) < (0 : Int32) then (f6_5a k u_length u_lane u_filler c_o1 n_o1 x2 ((x3 <<< (u_lane &&& 0x3f).toInt64) ||| (u_filler.toInt64)) (x5 + (1 : Int32))) else (if (¬ ((x5 - (u_length - x2)) < 0) ∧ Int32.toNatClampNeg (x5 - (u_length - x2)) < n_o1) then (f6_5a k u_length u_lane u_filler c_o1 n_o1 x2 ((x3 <<< (u_lane &&& 0x3f).toInt64) ||| ((c_o1 (Int32.toNatClampNeg (x5 - (u_length - x2)))).toInt64)) (x5 + (1 : Int32))) else none)) else (some x3)) = some r := hr
    refine o_iload X hx (hb hby d6_5) rfl (pc' := 7) rfl ?_
    refine o_aload_n X hx (hb hby d6_7) rfl rfl (pc' := 8) rfl ?_
    refine o_getF X hx hZ hown eT (hw _ (List.mem_of_getElem? (i := 21) rfl)) Via.refl F_o0_length (hb hby d6_8) (pc' := 11) rfl ?_
    intro T1 X1 e1
    by_cases hc2 : x5 < u_length
    · rw [if_pos hc2] at hr
      refine o_icmpNo X1 hx (hb hby d6_11) (c_tlt hc2).2 (pc' := 14) rfl ?_
      refine o_iload X1 hx (hb hby d6_14) rfl (pc' := 16) rfl ?_
      refine o_aload_n X1 hx (hb hby d6_16) rfl rfl (pc' := 17) rfl ?_
      refine o_getF X1 hx hZ hown e1 (hw _ (List.mem_of_getElem? (i := 21) rfl)) Via.refl F_o0_length (hb hby d6_17) (pc' := 20) rfl ?_
      intro T3 X3 e3
      refine o_iload_n X3 hx (hb hby d6_20) rfl (pc' := 21) rfl ?_
      refine o_isub X3 hx (hb hby d6_21) (pc' := 22) rfl ?_
      refine o_isub X3 hx (hb hby d6_22) (pc' := 23) rfl ?_
      refine o_istore X3 hx (hb hby d6_23) #[.val (.ref o0), .val (.ref o1), .val (.int x2), .val (.long x3), .second, .val (.int x5), .val (.int (x5 - (u_length - x2)))] rfl (pc' := 25) rfl ?_
      refine o_lload_n X3 hx (hb hby d6_25) rfl (pc' := 26) rfl ?_
      refine o_aload_n X3 hx (hb hby d6_26) rfl rfl (pc' := 27) rfl ?_
      refine o_getF X3 hx hZ hown e3 (hw _ (List.mem_of_getElem? (i := 19) rfl)) Via.refl F_o0_lane (hb hby d6_27) (pc' := 30) rfl ?_
      intro T4 X4 e4
      refine o_lshl X4 hx (hb hby d6_30) (pc' := 31) rfl ?_
      refine o_iload X4 hx (hb hby d6_31) rfl (pc' := 33) rfl ?_
      by_cases hc5 : (x5 - (u_length - x2)) < (0 : Int32)
      · rw [if_pos hc5] at hr
        refine o_ifNo X4 hx (hb hby d6_33) (z_tlt hc5).2 (pc' := 36) rfl ?_
        refine o_aload_n X4 hx (hb hby d6_36) rfl rfl (pc' := 37) rfl ?_
        refine o_getF X4 hx hZ hown e4 (hw _ (List.mem_of_getElem? (i := 29) rfl)) Via.refl F_o0_filler (hb hby d6_37) (pc' := 40) rfl ?_
        intro T6 X6 e6
        refine o_goto X6 hx (hb hby d6_40) (pc' := 47) (by decide) (by decide) ?_
        refine o_i2l X6 hx (hb hby d6_47) (pc' := 48) rfl ?_
        refine o_lor X6 hx (hb hby d6_48) (pc' := 49) rfl ?_
        refine o_lstore_n X6 hx (hb hby d6_49) #[.val (.ref o0), .val (.ref o1), .val (.int x2), .val (.long ((x3 <<< (u_lane &&& 0x3f).toInt64) ||| (u_filler.toInt64))), .second, .val (.int x5), .val (.int (x5 - (u_length - x2)))] rfl (pc' := 50) rfl ?_
        refine o_iinc X6 hx (hb hby d6_50) (1 : Int32) rfl rfl #[.val (.ref o0), .val (.ref o1), .val (.int x2), .val (.long ((x3 <<< (u_lane &&& 0x3f).toInt64) ||| (u_filler.toInt64))), .second, .val (.int (x5 + (1 : Int32))), .val (.int (x5 - (u_length - x2)))] rfl (pc' := 53) rfl ?_
        refine o_goto X6 hx (hb hby d6_53) (pc' := 5) (by decide) (by decide) ?_
        exact b6_5a hx hZ hw hby hml hown hnm hret hlk o0 o1 k u_length u_lane u_filler c_o1 n_o1 x2 ((x3 <<< (u_lane &&& 0x3f).toInt64) ||| (u_filler.toInt64)) (x5 + (1 : Int32)) (x5 - (u_length - x2)) r X6 e6 N Z0 E_o0 F_o0_length F_o0_lane F_o0_filler A_o1 hr
      · rw [if_neg hc5] at hr
        refine o_ifYes X4 hx (hb hby d6_33) (z_flt hc5).2 (pc' := 43) (by decide) (by decide) ?_
        refine o_aload_n X4 hx (hb hby d6_43) rfl rfl (pc' := 44) rfl ?_
        refine o_iload X4 hx (hb hby d6_44) rfl (pc' := 46) rfl ?_
        by_cases hg14 : (¬ ((x5 - (u_length - x2)) < 0) ∧ Int32.toNatClampNeg (x5 - (u_length - x2)) < n_o1)
        case neg => rw [if_neg hg14] at hr; cases hr
        rw [if_pos hg14] at hr
        refine o_caload X4 hx hZ e4 A_o1 (hb hby d6_46) (And.left hg14) (And.right hg14) (c_o1 (Int32.toNatClampNeg (x5 - (u_length - x2)))) rfl (pc' := 47) rfl ?_
        refine o_i2l X4 hx (hb hby d6_47) (pc' := 48) rfl ?_
        refine o_lor X4 hx (hb hby d6_48) (pc' := 49) rfl ?_
        refine o_lstore_n X4 hx (hb hby d6_49) #[.val (.ref o0), .val (.ref o1), .val (.int x2), .val (.long ((x3 <<< (u_lane &&& 0x3f).toInt64) ||| ((c_o1 (Int32.toNatClampNeg (x5 - (u_length - x2)))).toInt64))), .second, .val (.int x5), .val (.int (x5 - (u_length - x2)))] rfl (pc' := 50) rfl ?_
        refine o_iinc X4 hx (hb hby d6_50) (1 : Int32) rfl rfl #[.val (.ref o0), .val (.ref o1), .val (.int x2), .val (.long ((x3 <<< (u_lane &&& 0x3f).toInt64) ||| ((c_o1 (Int32.toNatClampNeg (x5 - (u_length - x2)))).toInt64))), .second, .val (.int (x5 + (1 : Int32))), .val (.int (x5 - (u_length - x2)))] rfl (pc' := 53) rfl ?_
        refine o_goto X4 hx (hb hby d6_53) (pc' := 5) (by decide) (by decide) ?_
        exact b6_5a hx hZ hw hby hml hown hnm hret hlk o0 o1 k u_length u_lane u_filler c_o1 n_o1 x2 ((x3 <<< (u_lane &&& 0x3f).toInt64) ||| ((c_o1 (Int32.toNatClampNeg (x5 - (u_length - x2)))).toInt64)) (x5 + (1 : Int32)) (x5 - (u_length - x2)) r X4 e4 N Z0 E_o0 F_o0_length F_o0_lane F_o0_filler A_o1 hr
    · rw [if_neg hc2] at hr
      refine o_icmpYes X1 hx (hb hby d6_11) (c_flt hc2).2 (pc' := 56) (by decide) (by decide) ?_
      refine o_lload_n X1 hx (hb hby d6_56) rfl (pc' := 57) rfl ?_
      obtain rfl : x3 = r := Option.some.inj hr
      exact o_retJ X1 hx hlk hret (hb hby d6_57) ⟨rfl, N, e1⟩ (by decide) (by decide)
def f6_0 (u_length : Int32) (u_lane : Int32) (u_filler : Int32) (c_o1 : (Nat → Int32)) (n_o1 : Nat) (x2 : Int32) : Option (Int64) := (f6_5 5 u_length u_lane u_filler c_o1 n_o1 x2 (0 : Int64) (0 : Int32))
set_option maxRecDepth 65536 in
set_option maxHeartbeats 40000000 in
theorem b6_0 {p : Program} {l : Launch} {e : Env} {s : State} {m : MethodId} {args : Array Value} {below : List Frame} {meth : Method} {c : Code} {Z : State} {a0 : Array Value} {h0 : Heap} {n0 : Nat} (hx : p.tables.exec = Jvm.exec) (hZ : Z.Warmed39 s.vm) (hw : ∀ d ∈ tables_1, d.before a0 Z = true) (hby : c.code = prog_29_method_3_code) (hml : c.maxLocals = 7) (hown : s.vm.findClass "com/example/once_match/oncematch/PrefixRegister" = some m.cls) (hnm : meth.name = "lanes") (hret : meth.sig.returnType = some .long) (hlk : meth.locks = false) (o0 : Addr) (o1 : Addr) {T : State} {locs : List Loc} (u_length : Int32) (u_lane : Int32) (u_filler : Int32) (c_o1 : Nat → Int32) (n_o1 : Nat) (x2 : Int32) (r : Int64) (X : Stand p l e ({ frames := 0, cells := 0, slots := 0, locals := 0 } : Room) s m args below meth c T locs 0 0) (eT : T.heap = h0) (N : Fr n0 locs) (Z0 : n0 ≤ h0.size) (E_o0 : Exa Z h0 o0 "com/example/once_match/oncematch/PrefixRegister") (F_o0_length : Fld Z h0 o0 "com/example/once_match/oncematch/PrefixRegister" "length" "I" (.int u_length)) (F_o0_lane : Fld Z h0 o0 "com/example/once_match/oncematch/PrefixRegister" "lane" "I" (.int u_lane)) (F_o0_filler : Fld Z h0 o0 "com/example/once_match/oncematch/PrefixRegister" "filler" "I" (.int u_filler)) (A_o1 : OAr Z h0 o1 .char n_o1 (ci c_o1)) (hr : f6_0 u_length u_lane u_filler c_o1 n_o1 x2 = some r) :
    OG p e below s (fun v h L => v = (some (.long r)) ∧ Fr n0 L ∧ h = h0) 0 0 T (mkF m 0 #[.val (.ref o0), .val (.ref o1), .val (.int x2), .unset, .unset, .unset, .unset] []) := by
  have hr : (f6_5 5 u_length u_lane u_filler c_o1 n_o1 x2 (0 : Int64) (0 : Int32)) = some r := hr
  refine o_lconst X hx (hb hby d6_0) (0 : Int64) rfl (pc' := 1) rfl ?_
  refine o_lstore_n X hx (hb hby d6_1) #[.val (.ref o0), .val (.ref o1), .val (.int x2), .val (.long (0 : Int64)), .second, .unset, .unset] rfl (pc' := 2) rfl ?_
  refine o_iconst X hx (hb hby d6_2) (0 : Int32) rfl (pc' := 3) rfl ?_
  refine o_istore X hx (hb hby d6_3) #[.val (.ref o0), .val (.ref o1), .val (.int x2), .val (.long (0 : Int64)), .second, .val (.int (0 : Int32)), .unset] rfl (pc' := 5) rfl ?_
  exact b6_5 hx hZ hw hby hml hown hnm hret hlk o0 o1 5 u_length u_lane u_filler c_o1 n_o1 x2 (0 : Int64) (0 : Int32) r X eT N Z0 E_o0 F_o0_length F_o0_lane F_o0_filler A_o1 hr
theorem pn_6 : plainName "com/example/once_match/oncematch/PrefixRegister" = true := by first | (simp [plainName, overriddenIn]; done) | decide +kernel
theorem ef_6 (m : MethodId) (o0 : Addr) (o1 : Addr) (x2 : Int32) : entryFrame m #[(.ref o0), (.ref o1), (.int x2)] 7 = (mkF m 0 #[.val (.ref o0), .val (.ref o1), .val (.int x2), .unset, .unset, .unset, .unset] []) := by first | (simp [entryFrame, mkF, argsToLocals, Value.category]; done) | rfl
def Qd6 (Z : State) (h0 : Heap) (n0 : Nat) (o0 : Addr) (o1 : Addr) (x2 : Int32) (u_length : Int32) (u_lane : Int32) (u_filler : Int32) (c_o1 : Nat → Int32) (n_o1 : Nat) (r : Int64) : Option Value → Heap → List Loc → Prop := (fun v h L => v = (some (.long r)) ∧ Fr n0 L ∧ h = h0)
set_option maxRecDepth 65536 in
set_option maxHeartbeats 40000000 in
theorem rm6 (l : Launch) (Z : State) (a0 : Array Value) (hw : ∀ d ∈ tables_1, d.before a0 Z = true) (ws : List Jvm.Cond) (o0 : Addr) (o1 : Addr) (x2 : Int32) (u_length : Int32) (u_lane : Int32) (u_filler : Int32) (c_o1 : Nat → Int32) (n_o1 : Nat) (h0 : Heap) (n0 : Nat) (Z0 : n0 ≤ h0.size) (E_o0 : Exa Z h0 o0 "com/example/once_match/oncematch/PrefixRegister") (F_o0_length : Fld Z h0 o0 "com/example/once_match/oncematch/PrefixRegister" "length" "I" (.int u_length)) (F_o0_lane : Fld Z h0 o0 "com/example/once_match/oncematch/PrefixRegister" "lane" "I" (.int u_lane)) (F_o0_filler : Fld Z h0 o0 "com/example/once_match/oncematch/PrefixRegister" "filler" "I" (.int u_filler)) (A_o1 : OAr Z h0 o1 .char n_o1 (ci c_o1)) (r : Int64) (hr : f6_0 u_length u_lane u_filler c_o1 n_o1 x2 = some r) :
    MetFree l (⟨"com/example/once_match/oncematch/PrefixRegister", "lanes", "([CI)J"⟩ : MethodName) (head1 (Jvm.Cond.code (⟨"com/example/once_match/oncematch/PrefixRegister", "lanes", "([CI)J"⟩ : MethodName) prog_29_method_3_code 7 (some .long) :: ws) ({ frames := 0, cells := 0, slots := 0, locals := 0 } : Room)) (fun a U => a = #[(.ref o0), (.ref o1), (.int x2)] ∧ Z.Warmed39 U.vm ∧ U.heap = h0) (fun _ _ _ _ _ => True) (fun _ U o U' => ∃ v L, o = .returned v ∧ (Qd6 Z h0 n0 o0 o1 x2 u_length u_lane u_filler c_o1 n_o1 r) v U'.heap L ∧ FrameEnd U o U' L ({ frames := 0, cells := 0, slots := 0, locals := 0 } : Room).cells ({ frames := 0, cells := 0, slots := 0, locals := 0 } : Room).slots) := by
  refine MetFree.of_bodySF (plainFor_of_name pn_6) hisR ?_
  intro p e s m args below meth c s₁ Bd hml0 hP hK
  obtain ⟨rfl, hZ, hh⟩ := hP
  have e0 : s₁.heap = h0 := by rw [← hh, Bd.state]; rfl
  exact OG.cast (ef_6 m o0 o1 x2) (b6_0 Bd.exec hZ hw Bd.bytes hml0 (findClass_of_methodNamed Bd.named) (name_of_methodNamed Bd.named Bd.method).1 Bd.returns Bd.notSynchronized o0 o1 u_length u_lane u_filler c_o1 n_o1 x2 r (Stand.of_body Bd) e0 (Fr.nil n0) Z0 E_o0 F_o0_length F_o0_lane F_o0_filler A_o1 hr)
theorem d2_0 : decode prog_29_method_1_code 0 = .ok (.aload_n 0, 1) := by decide +kernel
theorem d2_1 : decode prog_29_method_1_code 1 = .ok (.invokespecial 5, 3) := by decide +kernel
theorem d2_4 : decode prog_29_method_1_code 4 = .ok (.aload_n 1, 1) := by decide +kernel
theorem d2_5 : decode prog_29_method_1_code 5 = .ok (.arraylength, 1) := by decide +kernel
theorem d2_6 : decode prog_29_method_1_code 6 = .ok (.bipush 8, 2) := by decide +kernel
theorem d2_8 : decode prog_29_method_1_code 8 = .ok (.invokestatic 13, 3) := by decide +kernel
theorem pd_0 : parseMethodDescriptor "(II)I" = some ⟨[.int, .int], some .int⟩ := by decide +kernel
theorem d2_11 : decode prog_29_method_1_code 11 = .ok (.istore_n 2, 1) := by decide +kernel
theorem d2_12 : decode prog_29_method_1_code 12 = .ok (.iconst 1, 1) := by decide +kernel
theorem d2_13 : decode prog_29_method_1_code 13 = .ok (.istore_n 3, 1) := by decide +kernel
theorem d2_14 : decode prog_29_method_1_code 14 = .ok (.iconst 0, 1) := by decide +kernel
theorem d2_15 : decode prog_29_method_1_code 15 = .ok (.istore 4, 2) := by decide +kernel
theorem d2_17 : decode prog_29_method_1_code 17 = .ok (.iload 4, 2) := by decide +kernel
theorem d2_19 : decode prog_29_method_1_code 19 = .ok (.iload_n 2, 1) := by decide +kernel
theorem d2_20 : decode prog_29_method_1_code 20 = .ok (.if_icmp .ge 27, 3) := by decide +kernel
theorem d2_23 : decode prog_29_method_1_code 23 = .ok (.iload_n 3, 1) := by decide +kernel
theorem d2_24 : decode prog_29_method_1_code 24 = .ok (.aload_n 1, 1) := by decide +kernel
theorem d2_25 : decode prog_29_method_1_code 25 = .ok (.iload 4, 2) := by decide +kernel
theorem d2_27 : decode prog_29_method_1_code 27 = .ok (.caload, 1) := by decide +kernel
theorem d2_28 : decode prog_29_method_1_code 28 = .ok (.sipush 255, 3) := by decide +kernel
theorem d2_31 : decode prog_29_method_1_code 31 = .ok (.if_icmp .gt 7, 3) := by decide +kernel
theorem d2_38 : decode prog_29_method_1_code 38 = .ok (.iconst 0, 1) := by decide +kernel
theorem d2_39 : decode prog_29_method_1_code 39 = .ok (.iand, 1) := by decide +kernel
theorem d2_40 : decode prog_29_method_1_code 40 = .ok (.istore_n 3, 1) := by decide +kernel
theorem d2_41 : decode prog_29_method_1_code 41 = .ok (.iinc 4 1, 3) := by decide +kernel
theorem d2_44 : decode prog_29_method_1_code 44 = .ok (.goto (-27), 3) := by decide +kernel
theorem d2_34 : decode prog_29_method_1_code 34 = .ok (.iconst 1, 1) := by decide +kernel
theorem d2_35 : decode prog_29_method_1_code 35 = .ok (.goto 4, 3) := by decide +kernel
theorem d2_47 : decode prog_29_method_1_code 47 = .ok (.aload_n 0, 1) := by decide +kernel
theorem d2_48 : decode prog_29_method_1_code 48 = .ok (.iload_n 3, 1) := by decide +kernel
theorem d2_49 : decode prog_29_method_1_code 49 = .ok (.ifCond .eq 8, 3) := by decide +kernel
theorem d2_57 : decode prog_29_method_1_code 57 = .ok (.bipush 16, 2) := by decide +kernel
theorem d2_59 : decode prog_29_method_1_code 59 = .ok (.putfield 21, 3) := by decide +kernel
theorem d2_62 : decode prog_29_method_1_code 62 = .ok (.aload_n 0, 1) := by decide +kernel
theorem d2_63 : decode prog_29_method_1_code 63 = .ok (.aload_n 1, 1) := by decide +kernel
theorem d2_64 : decode prog_29_method_1_code 64 = .ok (.arraylength, 1) := by decide +kernel
theorem d2_65 : decode prog_29_method_1_code 65 = .ok (.bipush 64, 2) := by decide +kernel
theorem d2_67 : decode prog_29_method_1_code 67 = .ok (.aload_n 0, 1) := by decide +kernel
theorem d2_68 : decode prog_29_method_1_code 68 = .ok (.getfield 21, 3) := by decide +kernel
theorem d2_71 : decode prog_29_method_1_code 71 = .ok (.idiv, 1) := by decide +kernel
theorem d2_72 : decode prog_29_method_1_code 72 = .ok (.invokestatic 13, 3) := by decide +kernel
theorem d2_75 : decode prog_29_method_1_code 75 = .ok (.putfield 25, 3) := by decide +kernel
theorem d2_78 : decode prog_29_method_1_code 78 = .ok (.aload_n 0, 1) := by decide +kernel
theorem d2_79 : decode prog_29_method_1_code 79 = .ok (.bipush 64, 2) := by decide +kernel
theorem d2_81 : decode prog_29_method_1_code 81 = .ok (.aload_n 0, 1) := by decide +kernel
theorem d2_82 : decode prog_29_method_1_code 82 = .ok (.getfield 21, 3) := by decide +kernel
theorem d2_85 : decode prog_29_method_1_code 85 = .ok (.aload_n 0, 1) := by decide +kernel
theorem d2_86 : decode prog_29_method_1_code 86 = .ok (.getfield 25, 3) := by decide +kernel
theorem d2_89 : decode prog_29_method_1_code 89 = .ok (.imul, 1) := by decide +kernel
theorem d2_90 : decode prog_29_method_1_code 90 = .ok (.isub, 1) := by decide +kernel
theorem d2_91 : decode prog_29_method_1_code 91 = .ok (.putfield 28, 3) := by decide +kernel
theorem d2_94 : decode prog_29_method_1_code 94 = .ok (.iconst 0, 1) := by decide +kernel
theorem d2_95 : decode prog_29_method_1_code 95 = .ok (.istore 4, 2) := by decide +kernel
theorem d2_97 : decode prog_29_method_1_code 97 = .ok (.aload_n 0, 1) := by decide +kernel
theorem d2_98 : decode prog_29_method_1_code 98 = .ok (.aload_n 1, 1) := by decide +kernel
theorem d2_99 : decode prog_29_method_1_code 99 = .ok (.iload 4, 2) := by decide +kernel
theorem d2_101 : decode prog_29_method_1_code 101 = .ok (.invokevirtual 31, 3) := by decide +kernel
theorem pd_1 : parseMethodDescriptor "([CI)Z" = some ⟨[(.array .char), .int], some .boolean⟩ := by decide +kernel
theorem d2_104 : decode prog_29_method_1_code 104 = .ok (.ifCond .eq 9, 3) := by decide +kernel
theorem d2_113 : decode prog_29_method_1_code 113 = .ok (.aload_n 0, 1) := by decide +kernel
theorem d2_114 : decode prog_29_method_1_code 114 = .ok (.iload 4, 2) := by decide +kernel
theorem d2_116 : decode prog_29_method_1_code 116 = .ok (.putfield 35, 3) := by decide +kernel
theorem d2_119 : decode prog_29_method_1_code 119 = .ok (.aload_n 0, 1) := by decide +kernel
theorem d2_120 : decode prog_29_method_1_code 120 = .ok (.aload_n 0, 1) := by decide +kernel
theorem d2_121 : decode prog_29_method_1_code 121 = .ok (.aload_n 1, 1) := by decide +kernel
theorem d2_122 : decode prog_29_method_1_code 122 = .ok (.aload_n 0, 1) := by decide +kernel
theorem d2_123 : decode prog_29_method_1_code 123 = .ok (.getfield 25, 3) := by decide +kernel
theorem d2_126 : decode prog_29_method_1_code 126 = .ok (.invokevirtual 38, 3) := by decide +kernel
theorem pd_2 : parseMethodDescriptor "([CI)J" = some ⟨[(.array .char), .int], some .long⟩ := by decide +kernel
theorem d2_129 : decode prog_29_method_1_code 129 = .ok (.aload_n 0, 1) := by decide +kernel
theorem d2_130 : decode prog_29_method_1_code 130 = .ok (.getfield 28, 3) := by decide +kernel
theorem d2_133 : decode prog_29_method_1_code 133 = .ok (.lshl, 1) := by decide +kernel
theorem d2_134 : decode prog_29_method_1_code 134 = .ok (.putfield 42, 3) := by decide +kernel
theorem d2_137 : decode prog_29_method_1_code 137 = .ok (.aload_n 0, 1) := by decide +kernel
theorem d2_138 : decode prog_29_method_1_code 138 = .ok (.aload_n 1, 1) := by decide +kernel
theorem d2_139 : decode prog_29_method_1_code 139 = .ok (.aload_n 0, 1) := by decide +kernel
theorem d2_140 : decode prog_29_method_1_code 140 = .ok (.getfield 25, 3) := by decide +kernel
theorem d2_143 : decode prog_29_method_1_code 143 = .ok (.iconst 1, 1) := by decide +kernel
theorem d2_144 : decode prog_29_method_1_code 144 = .ok (.isub, 1) := by decide +kernel
theorem d2_145 : decode prog_29_method_1_code 145 = .ok (.caload, 1) := by decide +kernel
theorem d2_146 : decode prog_29_method_1_code 146 = .ok (.sipush 255, 3) := by decide +kernel
theorem d2_149 : decode prog_29_method_1_code 149 = .ok (.iand, 1) := by decide +kernel
theorem d2_150 : decode prog_29_method_1_code 150 = .ok (.i2l, 1) := by decide +kernel
theorem d2_151 : decode prog_29_method_1_code 151 = .ok (.ldc2_w 48, 3) := by decide +kernel
theorem d2_154 : decode prog_29_method_1_code 154 = .ok (.lmul, 1) := by decide +kernel
theorem d2_155 : decode prog_29_method_1_code 155 = .ok (.putfield 50, 3) := by decide +kernel
theorem d2_158 : decode prog_29_method_1_code 158 = .ok (.aload_n 0, 1) := by decide +kernel
theorem d2_159 : decode prog_29_method_1_code 159 = .ok (.aload_n 0, 1) := by decide +kernel
theorem d2_160 : decode prog_29_method_1_code 160 = .ok (.getfield 25, 3) := by decide +kernel
theorem d2_163 : decode prog_29_method_1_code 163 = .ok (.newarray .long, 2) := by decide +kernel
theorem d2_165 : decode prog_29_method_1_code 165 = .ok (.putfield 53, 3) := by decide +kernel
theorem d2_168 : decode prog_29_method_1_code 168 = .ok (.iconst 0, 1) := by decide +kernel
theorem d2_169 : decode prog_29_method_1_code 169 = .ok (.istore 5, 2) := by decide +kernel
theorem d2_171 : decode prog_29_method_1_code 171 = .ok (.iload 5, 2) := by decide +kernel
theorem d2_173 : decode prog_29_method_1_code 173 = .ok (.aload_n 0, 1) := by decide +kernel
theorem d2_174 : decode prog_29_method_1_code 174 = .ok (.getfield 25, 3) := by decide +kernel
theorem d2_177 : decode prog_29_method_1_code 177 = .ok (.if_icmp .ge 23, 3) := by decide +kernel
theorem d2_180 : decode prog_29_method_1_code 180 = .ok (.aload_n 0, 1) := by decide +kernel
theorem d2_181 : decode prog_29_method_1_code 181 = .ok (.getfield 53, 3) := by decide +kernel
theorem d2_184 : decode prog_29_method_1_code 184 = .ok (.iload 5, 2) := by decide +kernel
theorem d2_186 : decode prog_29_method_1_code 186 = .ok (.aload_n 0, 1) := by decide +kernel
theorem d2_187 : decode prog_29_method_1_code 187 = .ok (.aload_n 1, 1) := by decide +kernel
theorem d2_188 : decode prog_29_method_1_code 188 = .ok (.iload 5, 2) := by decide +kernel
theorem d2_190 : decode prog_29_method_1_code 190 = .ok (.invokevirtual 38, 3) := by decide +kernel
theorem d2_193 : decode prog_29_method_1_code 193 = .ok (.lastore, 1) := by decide +kernel
theorem d2_194 : decode prog_29_method_1_code 194 = .ok (.iinc 5 1, 3) := by decide +kernel
theorem d2_197 : decode prog_29_method_1_code 197 = .ok (.goto (-26), 3) := by decide +kernel
theorem d2_200 : decode prog_29_method_1_code 200 = .ok (.return_, 1) := by decide +kernel
theorem d2_107 : decode prog_29_method_1_code 107 = .ok (.iinc 4 1, 3) := by decide +kernel
theorem d2_110 : decode prog_29_method_1_code 110 = .ok (.goto (-13), 3) := by decide +kernel
theorem d2_52 : decode prog_29_method_1_code 52 = .ok (.bipush 8, 2) := by decide +kernel
theorem d2_54 : decode prog_29_method_1_code 54 = .ok (.goto 5, 3) := by decide +kernel
def f2_171a : Nat → Int32 → Int32 → Int32 → Int32 → Int64 → Int64 → (Nat → Int32) → Nat → (Nat → Int64) → Int32 → Int32 → Option (Int32 × Int32 × Int32 × Int32 × Int64 × Int64)
  | 0, _, _, _, _, _, _, _, _, _, _, _ => none
  | k + 1, u_lane, u_length, u_entry, u_filler, u_prefix, u_lasts, c_o1, n_o1, c_a26, z_a26, x5 => (if x5 < u_length then (Option.bind (f6_0 u_length u_lane u_filler c_o1 n_o1 x5) (fun v38 => (if (¬ (x5 < 0) ∧ Int32.toNatClampNeg x5 < (Int32.toNatClampNeg z_a26)) then (f2_171a k u_lane u_length u_entry u_filler u_prefix u_lasts c_o1 n_o1 (updJ c_a26 (Int32.toNatClampNeg x5) v38) z_a26 (x5 + (1 : Int32))) else none))) else (some (u_lane, u_length, u_entry, u_filler, u_prefix, u_lasts)))
set_option maxRecDepth 65536 in
set_option maxHeartbeats 40000000 in
theorem b2_171a {p : Program} {l : Launch} {e : Env} {s : State} {m : MethodId} {args : Array Value} {below : List Frame} {meth : Method} {c : Code} {Z : State} {a0 : Array Value} {h0 : Heap} {n0 : Nat} (hx : p.tables.exec = Jvm.exec) (hZ : Z.Warmed39 s.vm) (hw : ∀ d ∈ tables_1, d.before a0 Z = true) (hby : c.code = prog_29_method_1_code) (hml : c.maxLocals = 6) (hown : s.vm.findClass "com/example/once_match/oncematch/PrefixRegister" = some m.cls) (hnm : meth.name = "<init>") (hret : meth.sig.returnType = none) (hlk : meth.locks = false) (o0 : Addr) (o1 : Addr) : ∀ (k : Nat) {T : State} {locs : List Loc} {h : Heap} (u_lane : Int32) (u_length : Int32) (u_entry : Int32) (u_filler : Int32) (u_prefix : Int64) (u_lasts : Int64) (c_o1 : Nat → Int32) (n_o1 : Nat) (a26 : Addr) (c_a26 : Nat → Int64) (z_a26 : Int32) (d2 : Int32) (d3 : Int32) (d4 : Int32) (x5 : Int32) (r : Int32 × Int32 × Int32 × Int32 × Int64 × Int64) (X : Stand p l e ({ frames := 1, cells := 1, slots := 4, locals := 20 } : Room) s m args below meth c T locs 1 4) (eT : T.heap = h) (N : Fr n0 locs) (hsz : n0 ≤ h.size) (K : Keep h0 h [o0]) (E_o0 : Exa Z h o0 "com/example/once_match/oncematch/PrefixRegister") (F_o0_lane : Fld Z h o0 "com/example/once_match/oncematch/PrefixRegister" "lane" "I" (.int u_lane)) (F_o0_length : Fld Z h o0 "com/example/once_match/oncematch/PrefixRegister" "length" "I" (.int u_length)) (F_o0_entry : Fld Z h o0 "com/example/once_match/oncematch/PrefixRegister" "entry" "I" (.int u_entry)) (F_o0_filler : Fld Z h o0 "com/example/once_match/oncematch/PrefixRegister" "filler" "I" (.int u_filler)) (F_o0_prefix : Fld Z h o0 "com/example/once_match/oncematch/PrefixRegister" "prefix" "J" (.long u_prefix)) (F_o0_lasts : Fld Z h o0 "com/example/once_match/oncematch/PrefixRegister" "lasts" "J" (.long u_lasts)) (F_o0_before : Fld Z h o0 "com/example/once_match/oncematch/PrefixRegister" "before" "[J" (.ref a26)) (g_o0 : n0 ≤ o0) (A_o1 : OAr Z h o1 .char n_o1 (ci c_o1)) (g_o1 : n0 ≤ o1) (A_a26 : OAr Z h a26 .long (Int32.toNatClampNeg z_a26) (cj c_a26)) (hn_a26 : ¬ (z_a26 < 0)) (g_a26 : n0 ≤ a26) (s_a26 : h0.size ≤ a26) (ne_o0_o1 : o0 ≠ o1) (ne_o0_a26 : o0 ≠ a26) (ne_o1_a26 : o1 ≠ a26) (hr : f2_171a k u_lane u_length u_entry u_filler u_prefix u_lasts c_o1 n_o1 c_a26 z_a26 x5 = some r),
    OG p e below s (fun v h L => v = none ∧ Fr n0 L ∧ Keep h0 h [o0] ∧ Exa Z h o0 "com/example/once_match/oncematch/PrefixRegister" ∧ Fld Z h o0 "com/example/once_match/oncematch/PrefixRegister" "lane" "I" (.int r.1) ∧ Fld Z h o0 "com/example/once_match/oncematch/PrefixRegister" "length" "I" (.int r.2.1) ∧ Fld Z h o0 "com/example/once_match/oncematch/PrefixRegister" "entry" "I" (.int r.2.2.1) ∧ Fld Z h o0 "com/example/once_match/oncematch/PrefixRegister" "filler" "I" (.int r.2.2.2.1) ∧ Fld Z h o0 "com/example/once_match/oncematch/PrefixRegister" "prefix" "J" (.long r.2.2.2.2.1) ∧ Fld Z h o0 "com/example/once_match/oncematch/PrefixRegister" "lasts" "J" (.long r.2.2.2.2.2)) 1 4 T (mkF m 171 #[.val (.ref o0), .val (.ref o1), .val (.int d2), .val (.int d3), .val (.int d4), .val (.int x5)] []) := by
  intro k
  induction k with
  | zero => intros; rename_i hr; exact absurd hr (by intro q; cases q)
  | succ k ih =>
    intro T locs h u_lane u_length u_entry u_filler u_prefix u_lasts c_o1 n_o1 a26 c_a26 z_a26 d2 d3 d4 x5 r X eT N hsz K E_o0 F_o0_lane F_o0_length F_o0_entry F_o0_filler F_o0_prefix F_o0_lasts F_o0_before g_o0 A_o1 g_o1 A_a26 hn_a26 g_a26 s_a26 ne_o0_o1 ne_o0_a26 ne_o1_a26 hr
    have hr : (if x5 < u_length then (Option.bind (f6_0 u_length u_lane u_filler c_o1 n_o1 x5) (fun v38 => (if (¬ (x5 < 0) ∧ Int32.toNatClampNeg x5 < (Int32.toNatClampNeg z_a26)) then (f2_171a k u_lane u_length u_entry u_filler u_prefix u_lasts c_o1 n_o1 (updJ c_a26 (Int32.toNatClampNeg x5) v38) z_a26 (x5 + (1 : Int32))) else none))) else (some (u_lane, u_length, u_entry, u_filler, u_prefix, u_lasts))) = some r := hr
    refine o_iload X hx (hb hby d2_171) rfl (pc' := 173) rfl ?_
    refine o_aload_n X hx (hb hby d2_173) rfl rfl (pc' := 174) rfl ?_
    refine o_getF X hx hZ hown eT (hw _ (List.mem_of_getElem? (i := 21) rfl)) Via.refl F_o0_length (hb hby d2_174) (pc' := 177) rfl ?_
    intro T35 X35 e35
    by_cases hc36 : x5 < u_length
    · rw [if_pos hc36] at hr
      refine o_icmpNo X35 hx (hb hby d2_177) (c_tlt hc36).2 (pc' := 180) rfl ?_
      refine o_aload_n X35 hx (hb hby d2_180) rfl rfl (pc' := 181) rfl ?_
      refine o_getF X35 hx hZ hown e35 (hw _ (List.mem_of_getElem? (i := 41) rfl)) Via.refl F_o0_before (hb hby d2_181) (pc' := 184) rfl ?_
      intro T37 X37 e37
      refine o_iload X37 hx (hb hby d2_184) rfl (pc' := 186) rfl ?_
      refine o_aload_n X37 hx (hb hby d2_186) rfl rfl (pc' := 187) rfl ?_
      refine o_aload_n X37 hx (hb hby d2_187) rfl rfl (pc' := 188) rfl ?_
      refine o_iload X37 hx (hb hby d2_188) rfl (pc' := 190) rfl ?_
      rcases hq38 : f6_0 u_length u_lane u_filler c_o1 n_o1 x5 with _ | v38
      · rw [hq38] at hr; cases hr
      rw [hq38] at hr
      dsimp only [Option.bind] at hr
      refine o_private X37 hx hZ (argsL := [(.ref o1), (.int x5)]) (rest := [(.int x5), (.ref a26)]) (a := o0) 2 hown e37 (hw _ (List.mem_of_getElem? (i := 31) rfl)) (hw _ (List.mem_of_getElem? (i := 32) rfl)) (hw _ (List.mem_of_getElem? (i := 33) rfl)) (hw _ (List.mem_of_getElem? (i := 7) rfl)) (hw _ (List.mem_of_getElem? (i := 8) rfl)) (hw _ (List.mem_of_getElem? (i := 34) rfl)) (by decide) E_o0 (rm6 l Z a0 hw [] o0 o1 x5 u_length u_lane u_filler c_o1 n_o1 h n0 hsz E_o0 F_o0_length F_o0_lane F_o0_filler A_o1 v38 hq38) (by decide) (by decide) (by rw [hml]; rfl) (lenOf pd_2 rfl) rfl (Nat.le_refl _) (hb hby d2_190) (pc' := 193) rfl (by decide) (by decide) ?_
      rintro _ T38 L38 X38 ⟨rfl, N38, e38⟩
      replace X38 : Stand p l e ({ frames := 1, cells := 1, slots := 4, locals := 20 } : Room) s m args below meth c T38 (locs ++ L38) 1 4 := X38
      have M38 := Fr.app N N38
      dsimp only [Option.toList, List.cons_append, List.nil_append]
      by_cases hg39 : (¬ (x5 < 0) ∧ Int32.toNatClampNeg x5 < (Int32.toNatClampNeg z_a26))
      case neg => rw [if_neg hg39] at hr; cases hr
      rw [if_pos hg39] at hr
      refine o_lastore X38 hx hZ e38 A_a26 (hb hby d2_193) (And.left hg39) (And.right hg39) (pc' := 194) rfl ?_
      intro T40 h40 X40 e40 W40
      have A40_o0 := Exa.wr W40 E_o0
      have F40_o0_lane := Fld.other W40 F_o0_lane (Or.inl ne_o0_a26)
      have F40_o0_length := Fld.other W40 F_o0_length (Or.inl ne_o0_a26)
      have F40_o0_entry := Fld.other W40 F_o0_entry (Or.inl ne_o0_a26)
      have F40_o0_filler := Fld.other W40 F_o0_filler (Or.inl ne_o0_a26)
      have F40_o0_prefix := Fld.other W40 F_o0_prefix (Or.inl ne_o0_a26)
      have F40_o0_lasts := Fld.other W40 F_o0_lasts (Or.inl ne_o0_a26)
      have F40_o0_before := Fld.other W40 F_o0_before (Or.inl ne_o0_a26)
      have A40_o1 := OAr.other W40 A_o1 ne_o1_a26
      have A40 : OAr Z h40 a26 .long (Int32.toNatClampNeg z_a26) (cj (updJ c_a26 (Int32.toNatClampNeg x5) v38)) := OAr.updJ W40 A_a26
      have N40 := Fr.snoc X40 M38 g_a26
      have z40 : n0 ≤ h40.size := Nat.le_trans hsz (Keep.of_wr W40).1
      have K40 := Keep.wr K W40 (Or.inr s_a26)
      refine o_iinc X40 hx (hb hby d2_194) (1 : Int32) rfl rfl #[.val (.ref o0), .val (.ref o1), .val (.int d2), .val (.int d3), .val (.int d4), .val (.int (x5 + (1 : Int32)))] rfl (pc' := 197) rfl ?_
      refine o_goto X40 hx (hb hby d2_197) (pc' := 171) (by decide) (by decide) ?_
      exact ih u_lane u_length u_entry u_filler u_prefix u_lasts c_o1 n_o1 a26 (updJ c_a26 (Int32.toNatClampNeg x5) v38) z_a26 d2 d3 d4 (x5 + (1 : Int32)) r X40 e40 N40 z40 K40 A40_o0 F40_o0_lane F40_o0_length F40_o0_entry F40_o0_filler F40_o0_prefix F40_o0_lasts F40_o0_before g_o0 A40_o1 g_o1 A40 hn_a26 g_a26 s_a26 ne_o0_o1 ne_o0_a26 ne_o1_a26 hr
    · rw [if_neg hc36] at hr
      refine o_icmpYes X35 hx (hb hby d2_177) (c_flt hc36).2 (pc' := 200) (by decide) (by decide) ?_
      obtain rfl : (u_lane, u_length, u_entry, u_filler, u_prefix, u_lasts) = r := Option.some.inj hr
      exact o_ret X35 hx hlk hret (hb hby d2_200) (by rw [e35]; exact ⟨rfl, N, K, E_o0, F_o0_lane, F_o0_length, F_o0_entry, F_o0_filler, F_o0_prefix, F_o0_lasts⟩) (by decide) (by decide)
def f2_171 : Nat → Int32 → Int32 → Int32 → Int32 → Int64 → Int64 → (Nat → Int32) → Nat → (Nat → Int64) → Int32 → Int32 → Option (Int32 × Int32 × Int32 × Int32 × Int64 × Int64)
  | 0, _, _, _, _, _, _, _, _, _, _, _ => none
  | k + 1, u_lane, u_length, u_entry, u_filler, u_prefix, u_lasts, c_o1, n_o1, c_a26, z_a26, x5 => (if x5 < u_length then (Option.bind (f6_0 u_length u_lane u_filler c_o1 n_o1 x5) (fun v32 => (if (¬ (x5 < 0) ∧ Int32.toNatClampNeg x5 < (Int32.toNatClampNeg z_a26)) then (f2_171a k u_lane u_length u_entry u_filler u_prefix u_lasts c_o1 n_o1 (updJ c_a26 (Int32.toNatClampNeg x5) v32) z_a26 (x5 + (1 : Int32))) else none))) else (some (u_lane, u_length, u_entry, u_filler, u_prefix, u_lasts)))
set_option maxRecDepth 65536 in
set_option maxHeartbeats 40000000 in
theorem b2_171 {p : Program} {l : Launch} {e : Env} {s : State} {m : MethodId} {args : Array Value} {below : List Frame} {meth : Method} {c : Code} {Z : State} {a0 : Array Value} {h0 : Heap} {n0 : Nat} (hx : p.tables.exec = Jvm.exec) (hZ : Z.Warmed39 s.vm) (hw : ∀ d ∈ tables_1, d.before a0 Z = true) (hby : c.code = prog_29_method_1_code) (hml : c.maxLocals = 6) (hown : s.vm.findClass "com/example/once_match/oncematch/PrefixRegister" = some m.cls) (hnm : meth.name = "<init>") (hret : meth.sig.returnType = none) (hlk : meth.locks = false) (o0 : Addr) (o1 : Addr) : ∀ (k : Nat) {T : State} {locs : List Loc} {h : Heap} (u_lane : Int32) (u_length : Int32) (u_entry : Int32) (u_filler : Int32) (u_prefix : Int64) (u_lasts : Int64) (c_o1 : Nat → Int32) (n_o1 : Nat) (a26 : Addr) (c_a26 : Nat → Int64) (z_a26 : Int32) (d2 : Int32) (d3 : Int32) (d4 : Int32) (x5 : Int32) (r : Int32 × Int32 × Int32 × Int32 × Int64 × Int64) (X : Stand p l e ({ frames := 1, cells := 1, slots := 4, locals := 20 } : Room) s m args below meth c T locs 1 4) (eT : T.heap = h) (N : Fr n0 locs) (hsz : n0 ≤ h.size) (K : Keep h0 h [o0]) (E_o0 : Exa Z h o0 "com/example/once_match/oncematch/PrefixRegister") (F_o0_lane : Fld Z h o0 "com/example/once_match/oncematch/PrefixRegister" "lane" "I" (.int u_lane)) (F_o0_length : Fld Z h o0 "com/example/once_match/oncematch/PrefixRegister" "length" "I" (.int u_length)) (F_o0_entry : Fld Z h o0 "com/example/once_match/oncematch/PrefixRegister" "entry" "I" (.int u_entry)) (F_o0_filler : Fld Z h o0 "com/example/once_match/oncematch/PrefixRegister" "filler" "I" (.int u_filler)) (F_o0_prefix : Fld Z h o0 "com/example/once_match/oncematch/PrefixRegister" "prefix" "J" (.long u_prefix)) (F_o0_lasts : Fld Z h o0 "com/example/once_match/oncematch/PrefixRegister" "lasts" "J" (.long u_lasts)) (F_o0_before : Fld Z h o0 "com/example/once_match/oncematch/PrefixRegister" "before" "[J" (.ref a26)) (g_o0 : n0 ≤ o0) (A_o1 : OAr Z h o1 .char n_o1 (ci c_o1)) (g_o1 : n0 ≤ o1) (A_a26 : OAr Z h a26 .long (Int32.toNatClampNeg z_a26) (cj c_a26)) (hn_a26 : ¬ (z_a26 < 0)) (g_a26 : n0 ≤ a26) (s_a26 : h0.size ≤ a26) (ne_o0_o1 : o0 ≠ o1) (ne_o0_a26 : o0 ≠ a26) (ne_o1_a26 : o1 ≠ a26) (hr : f2_171 k u_lane u_length u_entry u_filler u_prefix u_lasts c_o1 n_o1 c_a26 z_a26 x5 = some r),
    OG p e below s (fun v h L => v = none ∧ Fr n0 L ∧ Keep h0 h [o0] ∧ Exa Z h o0 "com/example/once_match/oncematch/PrefixRegister" ∧ Fld Z h o0 "com/example/once_match/oncematch/PrefixRegister" "lane" "I" (.int r.1) ∧ Fld Z h o0 "com/example/once_match/oncematch/PrefixRegister" "length" "I" (.int r.2.1) ∧ Fld Z h o0 "com/example/once_match/oncematch/PrefixRegister" "entry" "I" (.int r.2.2.1) ∧ Fld Z h o0 "com/example/once_match/oncematch/PrefixRegister" "filler" "I" (.int r.2.2.2.1) ∧ Fld Z h o0 "com/example/once_match/oncematch/PrefixRegister" "prefix" "J" (.long r.2.2.2.2.1) ∧ Fld Z h o0 "com/example/once_match/oncematch/PrefixRegister" "lasts" "J" (.long r.2.2.2.2.2)) 1 4 T (mkF m 171 #[.val (.ref o0), .val (.ref o1), .val (.int d2), .val (.int d3), .val (.int d4), .val (.int x5)] []) := by
  intro k
  induction k with
  | zero => intros; rename_i hr; exact absurd hr (by intro q; cases q)
  | succ k ih =>
    intro T locs h u_lane u_length u_entry u_filler u_prefix u_lasts c_o1 n_o1 a26 c_a26 z_a26 d2 d3 d4 x5 r X eT N hsz K E_o0 F_o0_lane F_o0_length F_o0_entry F_o0_filler F_o0_prefix F_o0_lasts F_o0_before g_o0 A_o1 g_o1 A_a26 hn_a26 g_a26 s_a26 ne_o0_o1 ne_o0_a26 ne_o1_a26 hr
    have hr : (if x5 < u_length then (Option.bind (f6_0 u_length u_lane u_filler c_o1 n_o1 x5) (fun v32 => (if (¬ (x5 < 0) ∧ Int32.toNatClampNeg x5 < (Int32.toNatClampNeg z_a26)) then (f2_171a k u_lane u_length u_entry u_filler u_prefix u_lasts c_o1 n_o1 (updJ c_a26 (Int32.toNatClampNeg x5) v32) z_a26 (x5 + (1 : Int32))) else none))) else (some (u_lane, u_length, u_entry, u_filler, u_prefix, u_lasts))) = some r := hr
    refine o_iload X hx (hb hby d2_171) rfl (pc' := 173) rfl ?_
    refine o_aload_n X hx (hb hby d2_173) rfl rfl (pc' := 174) rfl ?_
    refine o_getF X hx hZ hown eT (hw _ (List.mem_of_getElem? (i := 21) rfl)) Via.refl F_o0_length (hb hby d2_174) (pc' := 177) rfl ?_
    intro T29 X29 e29
    by_cases hc30 : x5 < u_length
    · rw [if_pos hc30] at hr
      refine o_icmpNo X29 hx (hb hby d2_177) (c_tlt hc30).2 (pc' := 180) rfl ?_
      refine o_aload_n X29 hx (hb hby d2_180) rfl rfl (pc' := 181) rfl ?_
      refine o_getF X29 hx hZ hown e29 (hw _ (List.mem_of_getElem? (i := 41) rfl)) Via.refl F_o0_before (hb hby d2_181) (pc' := 184) rfl ?_
      intro T31 X31 e31
      refine o_iload X31 hx (hb hby d2_184) rfl (pc' := 186) rfl ?_
      refine o_aload_n X31 hx (hb hby d2_186) rfl rfl (pc' := 187) rfl ?_
      refine o_aload_n X31 hx (hb hby d2_187) rfl rfl (pc' := 188) rfl ?_
      refine o_iload X31 hx (hb hby d2_188) rfl (pc' := 190) rfl ?_
      rcases hq32 : f6_0 u_length u_lane u_filler c_o1 n_o1 x5 with _ | v32
      · rw [hq32] at hr; cases hr
      rw [hq32] at hr
      dsimp only [Option.bind] at hr
      refine o_private X31 hx hZ (argsL := [(.ref o1), (.int x5)]) (rest := [(.int x5), (.ref a26)]) (a := o0) 2 hown e31 (hw _ (List.mem_of_getElem? (i := 31) rfl)) (hw _ (List.mem_of_getElem? (i := 32) rfl)) (hw _ (List.mem_of_getElem? (i := 33) rfl)) (hw _ (List.mem_of_getElem? (i := 7) rfl)) (hw _ (List.mem_of_getElem? (i := 8) rfl)) (hw _ (List.mem_of_getElem? (i := 34) rfl)) (by decide) E_o0 (rm6 l Z a0 hw [] o0 o1 x5 u_length u_lane u_filler c_o1 n_o1 h n0 hsz E_o0 F_o0_length F_o0_lane F_o0_filler A_o1 v32 hq32) (by decide) (by decide) (by rw [hml]; rfl) (lenOf pd_2 rfl) rfl (Nat.le_refl _) (hb hby d2_190) (pc' := 193) rfl (by decide) (by decide) ?_
      rintro _ T32 L32 X32 ⟨rfl, N32, e32⟩
      replace X32 : Stand p l e ({ frames := 1, cells := 1, slots := 4, locals := 20 } : Room) s m args below meth c T32 (locs ++ L32) 1 4 := X32
      have M32 := Fr.app N N32
      dsimp only [Option.toList, List.cons_append, List.nil_append]
      by_cases hg33 : (¬ (x5 < 0) ∧ Int32.toNatClampNeg x5 < (Int32.toNatClampNeg z_a26))
      case neg => rw [if_neg hg33] at hr; cases hr
      rw [if_pos hg33] at hr
      refine o_lastore X32 hx hZ e32 A_a26 (hb hby d2_193) (And.left hg33) (And.right hg33) (pc' := 194) rfl ?_
      intro T34 h34 X34 e34 W34
      have A34_o0 := Exa.wr W34 E_o0
      have F34_o0_lane := Fld.other W34 F_o0_lane (Or.inl ne_o0_a26)
      have F34_o0_length := Fld.other W34 F_o0_length (Or.inl ne_o0_a26)
      have F34_o0_entry := Fld.other W34 F_o0_entry (Or.inl ne_o0_a26)
      have F34_o0_filler := Fld.other W34 F_o0_filler (Or.inl ne_o0_a26)
      have F34_o0_prefix := Fld.other W34 F_o0_prefix (Or.inl ne_o0_a26)
      have F34_o0_lasts := Fld.other W34 F_o0_lasts (Or.inl ne_o0_a26)
      have F34_o0_before := Fld.other W34 F_o0_before (Or.inl ne_o0_a26)
      have A34_o1 := OAr.other W34 A_o1 ne_o1_a26
      have A34 : OAr Z h34 a26 .long (Int32.toNatClampNeg z_a26) (cj (updJ c_a26 (Int32.toNatClampNeg x5) v32)) := OAr.updJ W34 A_a26
      have N34 := Fr.snoc X34 M32 g_a26
      have z34 : n0 ≤ h34.size := Nat.le_trans hsz (Keep.of_wr W34).1
      have K34 := Keep.wr K W34 (Or.inr s_a26)
      refine o_iinc X34 hx (hb hby d2_194) (1 : Int32) rfl rfl #[.val (.ref o0), .val (.ref o1), .val (.int d2), .val (.int d3), .val (.int d4), .val (.int (x5 + (1 : Int32)))] rfl (pc' := 197) rfl ?_
      refine o_goto X34 hx (hb hby d2_197) (pc' := 171) (by decide) (by decide) ?_
      exact b2_171a hx hZ hw hby hml hown hnm hret hlk o0 o1 k u_lane u_length u_entry u_filler u_prefix u_lasts c_o1 n_o1 a26 (updJ c_a26 (Int32.toNatClampNeg x5) v32) z_a26 d2 d3 d4 (x5 + (1 : Int32)) r X34 e34 N34 z34 K34 A34_o0 F34_o0_lane F34_o0_length F34_o0_entry F34_o0_filler F34_o0_prefix F34_o0_lasts F34_o0_before g_o0 A34_o1 g_o1 A34 hn_a26 g_a26 s_a26 ne_o0_o1 ne_o0_a26 ne_o1_a26 hr
    · rw [if_neg hc30] at hr
      refine o_icmpYes X29 hx (hb hby d2_177) (c_flt hc30).2 (pc' := 200) (by decide) (by decide) ?_
      obtain rfl : (u_lane, u_length, u_entry, u_filler, u_prefix, u_lasts) = r := Option.some.inj hr
      exact o_ret X29 hx hlk hret (hb hby d2_200) (by rw [e29]; exact ⟨rfl, N, K, E_o0, F_o0_lane, F_o0_length, F_o0_entry, F_o0_filler, F_o0_prefix, F_o0_lasts⟩) (by decide) (by decide)
def f2_97 : Nat → Int32 → Int32 → Int32 → (Nat → Int32) → Nat → Int32 → Option (Int32 × Int32 × Int32 × Int32 × Int64 × Int64)
  | 0, _, _, _, _, _, _ => none
  | k + 1, u_lane, u_length, u_entry, c_o1, n_o1, x4 => (Option.bind (f5_0 u_length c_o1 n_o1 x4) (fun v15 => (if v15 = (0 : Int32) then (Option.bind (f6_0 u_length u_lane x4 c_o1 n_o1 u_length) (fun v19 => (if (¬ ((u_length - (1 : Int32)) < 0) ∧ Int32.toNatClampNeg (u_length - (1 : Int32)) < n_o1) then (if (¬ (u_length < 0) ∧ u_length.toNatClampNeg ≤ 4) then (f2_171 5 u_lane u_length u_entry x4 (v19 <<< (u_entry &&& 0x3f).toInt64) ((((c_o1 (Int32.toNatClampNeg (u_length - (1 : Int32)))) &&& (255 : Int32)).toInt64) * (72340172838076673 : Int64)) c_o1 n_o1 (fun _ => 0) u_length (0 : Int32)) else none) else none))) else (f2_97 k u_lane u_length u_entry c_o1 n_o1 (x4 + (1 : Int32))))))
set_option maxRecDepth 65536 in
set_option maxHeartbeats 40000000 in
theorem b2_97 {p : Program} {l : Launch} {e : Env} {s : State} {m : MethodId} {args : Array Value} {below : List Frame} {meth : Method} {c : Code} {Z : State} {a0 : Array Value} {h0 : Heap} {n0 : Nat} (hx : p.tables.exec = Jvm.exec) (hZ : Z.Warmed39 s.vm) (hw : ∀ d ∈ tables_1, d.before a0 Z = true) (hby : c.code = prog_29_method_1_code) (hml : c.maxLocals = 6) (hown : s.vm.findClass "com/example/once_match/oncematch/PrefixRegister" = some m.cls) (hnm : meth.name = "<init>") (hret : meth.sig.returnType = none) (hlk : meth.locks = false) (o0 : Addr) (o1 : Addr) : ∀ (k : Nat) {T : State} {locs : List Loc} {h : Heap} (u_lane : Int32) (u_length : Int32) (u_entry : Int32) (u_filler : Value) (u_prefix : Value) (u_lasts : Value) (u_before : Value) (c_o1 : Nat → Int32) (n_o1 : Nat) (d2 : Int32) (d3 : Int32) (x4 : Int32) (r : Int32 × Int32 × Int32 × Int32 × Int64 × Int64) (X : Stand p l e ({ frames := 1, cells := 1, slots := 4, locals := 20 } : Room) s m args below meth c T locs 0 0) (eT : T.heap = h) (N : Fr n0 locs) (hsz : n0 ≤ h.size) (K : Keep h0 h [o0]) (E_o0 : Exa Z h o0 "com/example/once_match/oncematch/PrefixRegister") (F_o0_lane : Fld Z h o0 "com/example/once_match/oncematch/PrefixRegister" "lane" "I" (.int u_lane)) (F_o0_length : Fld Z h o0 "com/example/once_match/oncematch/PrefixRegister" "length" "I" (.int u_length)) (F_o0_entry : Fld Z h o0 "com/example/once_match/oncematch/PrefixRegister" "entry" "I" (.int u_entry)) (F_o0_filler : Fld Z h o0 "com/example/once_match/oncematch/PrefixRegister" "filler" "I" u_filler) (F_o0_prefix : Fld Z h o0 "com/example/once_match/oncematch/PrefixRegister" "prefix" "J" u_prefix) (F_o0_lasts : Fld Z h o0 "com/example/once_match/oncematch/PrefixRegister" "lasts" "J" u_lasts) (F_o0_before : Fld Z h o0 "com/example/once_match/oncematch/PrefixRegister" "before" "[J" u_before) (g_o0 : n0 ≤ o0) (A_o1 : OAr Z h o1 .char n_o1 (ci c_o1)) (g_o1 : n0 ≤ o1) (ne_o0_o1 : o0 ≠ o1) (hr : f2_97 k u_lane u_length u_entry c_o1 n_o1 x4 = some r),
    OG p e below s (fun v h L => v = none ∧ Fr n0 L ∧ Keep h0 h [o0] ∧ Exa Z h o0 "com/example/once_match/oncematch/PrefixRegister" ∧ Fld Z h o0 "com/example/once_match/oncematch/PrefixRegister" "lane" "I" (.int r.1) ∧ Fld Z h o0 "com/example/once_match/oncematch/PrefixRegister" "length" "I" (.int r.2.1) ∧ Fld Z h o0 "com/example/once_match/oncematch/PrefixRegister" "entry" "I" (.int r.2.2.1) ∧ Fld Z h o0 "com/example/once_match/oncematch/PrefixRegister" "filler" "I" (.int r.2.2.2.1) ∧ Fld Z h o0 "com/example/once_match/oncematch/PrefixRegister" "prefix" "J" (.long r.2.2.2.2.1) ∧ Fld Z h o0 "com/example/once_match/oncematch/PrefixRegister" "lasts" "J" (.long r.2.2.2.2.2)) 1 4 T (mkF m 97 #[.val (.ref o0), .val (.ref o1), .val (.int d2), .val (.int d3), .val (.int x4), .unset] []) := by
  intro k
  induction k with
  | zero => intros; rename_i hr; exact absurd hr (by intro q; cases q)
  | succ k ih =>
    intro T locs h u_lane u_length u_entry u_filler u_prefix u_lasts u_before c_o1 n_o1 d2 d3 x4 r X eT N hsz K E_o0 F_o0_lane F_o0_length F_o0_entry F_o0_filler F_o0_prefix F_o0_lasts F_o0_before g_o0 A_o1 g_o1 ne_o0_o1 hr
    have hr : (Option.bind (f5_0 u_length c_o1 n_o1 x4) (fun v15 => (if v15 = (0 : Int32) then (Option.bind (f6_0 u_length u_lane x4 c_o1 n_o1 u_length) (fun v19 => (if (¬ ((u_length - (1 : Int32)) < 0) ∧ Int32.toNatClampNeg (u_length - (1 : Int32)) < n_o1) then (if (¬ (u_length < 0) ∧ u_length.toNatClampNeg ≤ 4) then (f2_171 5 u_lane u_length u_entry x4 (v19 <<< (u_entry &&& 0x3f).toInt64) ((((c_o1 (Int32.toNatClampNeg (u_length - (1 : Int32)))) &&& (255 : Int32)).toInt64) * (72340172838076673 : Int64)) c_o1 n_o1 (fun _ => 0) u_length (0 : Int32)) else none) else none))) else (f2_97 k u_lane u_length u_entry c_o1 n_o1 (x4 + (1 : Int32)))))) = some r := hr
    refine o_aload_n X hx (hb hby d2_97) rfl rfl (pc' := 98) rfl ?_
    refine o_aload_n X hx (hb hby d2_98) rfl rfl (pc' := 99) rfl ?_
    refine o_iload X hx (hb hby d2_99) rfl (pc' := 101) rfl ?_
    rcases hq15 : f5_0 u_length c_o1 n_o1 x4 with _ | v15
    · rw [hq15] at hr; cases hr
    rw [hq15] at hr
    dsimp only [Option.bind] at hr
    refine o_private X hx hZ (argsL := [(.ref o1), (.int x4)]) (rest := []) (a := o0) 0 hown eT (hw _ (List.mem_of_getElem? (i := 25) rfl)) (hw _ (List.mem_of_getElem? (i := 26) rfl)) (hw _ (List.mem_of_getElem? (i := 27) rfl)) (hw _ (List.mem_of_getElem? (i := 7) rfl)) (hw _ (List.mem_of_getElem? (i := 8) rfl)) (hw _ (List.mem_of_getElem? (i := 28) rfl)) (by decide) E_o0 (rm5 l Z a0 hw [] o0 o1 x4 u_length c_o1 n_o1 h n0 hsz E_o0 F_o0_length A_o1 v15 hq15) (by decide) (by decide) (by rw [hml]; rfl) (lenOf pd_1 rfl) rfl (Nat.le_refl _) (hb hby d2_101) (pc' := 104) rfl (by decide) (by decide) ?_
    rintro _ T15 L15 X15 ⟨rfl, N15, e15⟩
    replace X15 : Stand p l e ({ frames := 1, cells := 1, slots := 4, locals := 20 } : Room) s m args below meth c T15 (locs ++ L15) 0 0 := X15
    have M15 := Fr.app N N15
    dsimp only [Option.toList, List.cons_append, List.nil_append]
    by_cases hc16 : v15 = (0 : Int32)
    · rw [if_pos hc16] at hr
      refine o_ifYes X15 hx (hb hby d2_104) (z_teq hc16).1 (pc' := 113) (by decide) (by decide) ?_
      refine o_aload_n X15 hx (hb hby d2_113) rfl rfl (pc' := 114) rfl ?_
      refine o_iload X15 hx (hb hby d2_114) rfl (pc' := 116) rfl ?_
      refine o_putF X15 hx hZ hown e15 (hw _ (List.mem_of_getElem? (i := 29) rfl)) Via.refl F_o0_filler E_o0 (Or.inr ⟨(hw _ (List.mem_of_getElem? (i := 30) rfl)), rfl, hnm⟩) (hw _ (List.mem_of_getElem? (i := 7) rfl)) (ty := .int) (by decide) rfl rfl (hb hby d2_116) (pc' := 119) rfl ?_
      intro T17 h17 X17 e17 W17
      have F17_o0_filler := Fld.same W17 F_o0_filler
      have A17_o0 := Exa.wr W17 E_o0
      have F17_o0_lane := Fld.other W17 F_o0_lane (Or.inr (slot_ne (Or.inr (hw _ (List.mem_of_getElem? (i := 20) rfl))) (Or.inr (hw _ (List.mem_of_getElem? (i := 30) rfl))) (by decide) (t := .int) (t' := .int) (by decide) (by decide)))
      have F17_o0_length := Fld.other W17 F_o0_length (Or.inr (slot_ne (Or.inr (hw _ (List.mem_of_getElem? (i := 22) rfl))) (Or.inr (hw _ (List.mem_of_getElem? (i := 30) rfl))) (by decide) (t := .int) (t' := .int) (by decide) (by decide)))
      have F17_o0_entry := Fld.other W17 F_o0_entry (Or.inr (slot_ne (Or.inr (hw _ (List.mem_of_getElem? (i := 24) rfl))) (Or.inr (hw _ (List.mem_of_getElem? (i := 30) rfl))) (by decide) (t := .int) (t' := .int) (by decide) (by decide)))
      have F17_o0_prefix := Fld.other W17 F_o0_prefix (Or.inr (slot_ne (Or.inr (hw _ (List.mem_of_getElem? (i := 36) rfl))) (Or.inr (hw _ (List.mem_of_getElem? (i := 30) rfl))) (by decide) (t := .long) (t' := .int) (by decide) (by decide)))
      have F17_o0_lasts := Fld.other W17 F_o0_lasts (Or.inr (slot_ne (Or.inr (hw _ (List.mem_of_getElem? (i := 39) rfl))) (Or.inr (hw _ (List.mem_of_getElem? (i := 30) rfl))) (by decide) (t := .long) (t' := .int) (by decide) (by decide)))
      have F17_o0_before := Fld.other W17 F_o0_before (Or.inr (slot_ne (Or.inr (hw _ (List.mem_of_getElem? (i := 42) rfl))) (Or.inr (hw _ (List.mem_of_getElem? (i := 30) rfl))) (by decide) (t := (.array .long)) (t' := .int) (by decide) (by decide)))
      have A17_o1 := OAr.other W17 A_o1 (Ne.symm ne_o0_o1)
      have N17 := Fr.snoc X17 M15 g_o0
      have z17 : n0 ≤ h17.size := Nat.le_trans hsz (Keep.of_wr W17).1
      have K17 := Keep.wr K W17 (Or.inl (by simp))
      refine o_aload_n X17 hx (hb hby d2_119) rfl rfl (pc' := 120) rfl ?_
      refine o_aload_n X17 hx (hb hby d2_120) rfl rfl (pc' := 121) rfl ?_
      refine o_aload_n X17 hx (hb hby d2_121) rfl rfl (pc' := 122) rfl ?_
      refine o_aload_n X17 hx (hb hby d2_122) rfl rfl (pc' := 123) rfl ?_
      refine o_getF X17 hx hZ hown e17 (hw _ (List.mem_of_getElem? (i := 21) rfl)) Via.refl F17_o0_length (hb hby d2_123) (pc' := 126) rfl ?_
      intro T18 X18 e18
      rcases hq19 : f6_0 u_length u_lane x4 c_o1 n_o1 u_length with _ | v19
      · rw [hq19] at hr; cases hr
      rw [hq19] at hr
      dsimp only [Option.bind] at hr
      refine o_private X18 hx hZ (argsL := [(.ref o1), (.int u_length)]) (rest := [(.ref o0)]) (a := o0) 1 hown e18 (hw _ (List.mem_of_getElem? (i := 31) rfl)) (hw _ (List.mem_of_getElem? (i := 32) rfl)) (hw _ (List.mem_of_getElem? (i := 33) rfl)) (hw _ (List.mem_of_getElem? (i := 7) rfl)) (hw _ (List.mem_of_getElem? (i := 8) rfl)) (hw _ (List.mem_of_getElem? (i := 34) rfl)) (by decide) A17_o0 (rm6 l Z a0 hw [] o0 o1 u_length u_length u_lane x4 c_o1 n_o1 h17 n0 z17 A17_o0 F17_o0_length F17_o0_lane F17_o0_filler A17_o1 v19 hq19) (by decide) (by decide) (by rw [hml]; rfl) (lenOf pd_2 rfl) rfl (Nat.le_refl _) (hb hby d2_126) (pc' := 129) rfl (by decide) (by decide) ?_
      rintro _ T19 L19 X19 ⟨rfl, N19, e19⟩
      replace X19 : Stand p l e ({ frames := 1, cells := 1, slots := 4, locals := 20 } : Room) s m args below meth c T19 (((locs ++ L15) ++ [⟨o0, RoadKit.slotOf Z "com/example/once_match/oncematch/PrefixRegister" "filler" "I"⟩]) ++ L19) 0 0 := X19
      have M19 := Fr.app N17 N19
      dsimp only [Option.toList, List.cons_append, List.nil_append]
      refine o_aload_n X19 hx (hb hby d2_129) rfl rfl (pc' := 130) rfl ?_
      refine o_getF X19 hx hZ hown e19 (hw _ (List.mem_of_getElem? (i := 23) rfl)) Via.refl F17_o0_entry (hb hby d2_130) (pc' := 133) rfl ?_
      intro T20 X20 e20
      refine o_lshl X20 hx (hb hby d2_133) (pc' := 134) rfl ?_
      refine o_putF X20 hx hZ hown e20 (hw _ (List.mem_of_getElem? (i := 35) rfl)) Via.refl F17_o0_prefix A17_o0 (Or.inr ⟨(hw _ (List.mem_of_getElem? (i := 36) rfl)), rfl, hnm⟩) (hw _ (List.mem_of_getElem? (i := 7) rfl)) (ty := .long) (by decide) rfl rfl (hb hby d2_134) (pc' := 137) rfl ?_
      intro T21 h21 X21 e21 W21
      have F21_o0_prefix := Fld.same W21 F17_o0_prefix
      have A21_o0 := Exa.wr W21 A17_o0
      have F21_o0_lane := Fld.other W21 F17_o0_lane (Or.inr (slot_ne (Or.inr (hw _ (List.mem_of_getElem? (i := 20) rfl))) (Or.inr (hw _ (List.mem_of_getElem? (i := 36) rfl))) (by decide) (t := .int) (t' := .long) (by decide) (by decide)))
      have F21_o0_length := Fld.other W21 F17_o0_length (Or.inr (slot_ne (Or.inr (hw _ (List.mem_of_getElem? (i := 22) rfl))) (Or.inr (hw _ (List.mem_of_getElem? (i := 36) rfl))) (by decide) (t := .int) (t' := .long) (by decide) (by decide)))
      have F21_o0_entry := Fld.other W21 F17_o0_entry (Or.inr (slot_ne (Or.inr (hw _ (List.mem_of_getElem? (i := 24) rfl))) (Or.inr (hw _ (List.mem_of_getElem? (i := 36) rfl))) (by decide) (t := .int) (t' := .long) (by decide) (by decide)))
      have F21_o0_filler := Fld.other W21 F17_o0_filler (Or.inr (slot_ne (Or.inr (hw _ (List.mem_of_getElem? (i := 30) rfl))) (Or.inr (hw _ (List.mem_of_getElem? (i := 36) rfl))) (by decide) (t := .int) (t' := .long) (by decide) (by decide)))
      have F21_o0_lasts := Fld.other W21 F17_o0_lasts (Or.inr (slot_ne (Or.inr (hw _ (List.mem_of_getElem? (i := 39) rfl))) (Or.inr (hw _ (List.mem_of_getElem? (i := 36) rfl))) (by decide) (t := .long) (t' := .long) (by decide) (by decide)))
      have F21_o0_before := Fld.other W21 F17_o0_before (Or.inr (slot_ne (Or.inr (hw _ (List.mem_of_getElem? (i := 42) rfl))) (Or.inr (hw _ (List.mem_of_getElem? (i := 36) rfl))) (by decide) (t := (.array .long)) (t' := .long) (by decide) (by decide)))
      have A21_o1 := OAr.other W21 A17_o1 (Ne.symm ne_o0_o1)
      have N21 := Fr.snoc X21 M19 g_o0
      have z21 : n0 ≤ h21.size := Nat.le_trans z17 (Keep.of_wr W21).1
      have K21 := Keep.wr K17 W21 (Or.inl (by simp))
      refine o_aload_n X21 hx (hb hby d2_137) rfl rfl (pc' := 138) rfl ?_
      refine o_aload_n X21 hx (hb hby d2_138) rfl rfl (pc' := 139) rfl ?_
      refine o_aload_n X21 hx (hb hby d2_139) rfl rfl (pc' := 140) rfl ?_
      refine o_getF X21 hx hZ hown e21 (hw _ (List.mem_of_getElem? (i := 21) rfl)) Via.refl F21_o0_length (hb hby d2_140) (pc' := 143) rfl ?_
      intro T22 X22 e22
      refine o_iconst X22 hx (hb hby d2_143) (1 : Int32) rfl (pc' := 144) rfl ?_
      refine o_isub X22 hx (hb hby d2_144) (pc' := 145) rfl ?_
      by_cases hg23 : (¬ ((u_length - (1 : Int32)) < 0) ∧ Int32.toNatClampNeg (u_length - (1 : Int32)) < n_o1)
      case neg => rw [if_neg hg23] at hr; cases hr
      rw [if_pos hg23] at hr
      refine o_caload X22 hx hZ e22 A21_o1 (hb hby d2_145) (And.left hg23) (And.right hg23) (c_o1 (Int32.toNatClampNeg (u_length - (1 : Int32)))) rfl (pc' := 146) rfl ?_
      refine o_sipush X22 hx (hb hby d2_146) (255 : Int32) rfl (pc' := 149) rfl ?_
      refine o_iand X22 hx (hb hby d2_149) (pc' := 150) rfl ?_
      refine o_i2l X22 hx (hb hby d2_150) (pc' := 151) rfl ?_
      refine o_ldc2Long X22 hx hZ hown (hb hby d2_151) (hw _ (List.mem_of_getElem? (i := 37) rfl)) (pc' := 154) rfl ?_
      refine o_lmul X22 hx (hb hby d2_154) (pc' := 155) rfl ?_
      refine o_putF X22 hx hZ hown e22 (hw _ (List.mem_of_getElem? (i := 38) rfl)) Via.refl F21_o0_lasts A21_o0 (Or.inr ⟨(hw _ (List.mem_of_getElem? (i := 39) rfl)), rfl, hnm⟩) (hw _ (List.mem_of_getElem? (i := 7) rfl)) (ty := .long) (by decide) rfl rfl (hb hby d2_155) (pc' := 158) rfl ?_
      intro T24 h24 X24 e24 W24
      have F24_o0_lasts := Fld.same W24 F21_o0_lasts
      have A24_o0 := Exa.wr W24 A21_o0
      have F24_o0_lane := Fld.other W24 F21_o0_lane (Or.inr (slot_ne (Or.inr (hw _ (List.mem_of_getElem? (i := 20) rfl))) (Or.inr (hw _ (List.mem_of_getElem? (i := 39) rfl))) (by decide) (t := .int) (t' := .long) (by decide) (by decide)))
      have F24_o0_length := Fld.other W24 F21_o0_length (Or.inr (slot_ne (Or.inr (hw _ (List.mem_of_getElem? (i := 22) rfl))) (Or.inr (hw _ (List.mem_of_getElem? (i := 39) rfl))) (by decide) (t := .int) (t' := .long) (by decide) (by decide)))
      have F24_o0_entry := Fld.other W24 F21_o0_entry (Or.inr (slot_ne (Or.inr (hw _ (List.mem_of_getElem? (i := 24) rfl))) (Or.inr (hw _ (List.mem_of_getElem? (i := 39) rfl))) (by decide) (t := .int) (t' := .long) (by decide) (by decide)))
      have F24_o0_filler := Fld.other W24 F21_o0_filler (Or.inr (slot_ne (Or.inr (hw _ (List.mem_of_getElem? (i := 30) rfl))) (Or.inr (hw _ (List.mem_of_getElem? (i := 39) rfl))) (by decide) (t := .int) (t' := .long) (by decide) (by decide)))
      have F24_o0_prefix := Fld.other W24 F21_o0_prefix (Or.inr (slot_ne (Or.inr (hw _ (List.mem_of_getElem? (i := 36) rfl))) (Or.inr (hw _ (List.mem_of_getElem? (i := 39) rfl))) (by decide) (t := .long) (t' := .long) (by decide) (by decide)))
      have F24_o0_before := Fld.other W24 F21_o0_before (Or.inr (slot_ne (Or.inr (hw _ (List.mem_of_getElem? (i := 42) rfl))) (Or.inr (hw _ (List.mem_of_getElem? (i := 39) rfl))) (by decide) (t := (.array .long)) (t' := .long) (by decide) (by decide)))
      have A24_o1 := OAr.other W24 A21_o1 (Ne.symm ne_o0_o1)
      have N24 := Fr.snoc X24 N21 g_o0
      have z24 : n0 ≤ h24.size := Nat.le_trans z21 (Keep.of_wr W24).1
      have K24 := Keep.wr K21 W24 (Or.inl (by simp))
      refine o_aload_n X24 hx (hb hby d2_158) rfl rfl (pc' := 159) rfl ?_
      refine o_aload_n X24 hx (hb hby d2_159) rfl rfl (pc' := 160) rfl ?_
      refine o_getF X24 hx hZ hown e24 (hw _ (List.mem_of_getElem? (i := 21) rfl)) Via.refl F24_o0_length (hb hby d2_160) (pc' := 163) rfl ?_
      intro T25 X25 e25
      by_cases hg27 : (¬ (u_length < 0) ∧ u_length.toNatClampNeg ≤ 4)
      case neg => rw [if_neg hg27] at hr; cases hr
      rw [if_pos hg27] at hr
      refine o_newarr X25 hx hZ e25 (hw _ (List.mem_of_getElem? (i := 40) rfl)) (hb hby d2_163) (And.left hg27) 4 (And.right hg27) (by decide) (by decide) (by decide) (pc' := 165) rfl ?_
      intro T26 h26 a26 X26 e26 q26 E26 A26
      have g26 : n0 ≤ a26 := Nat.le_trans z24 (Nat.le_of_eq q26.symm)
      have ne_o0_a26 : o0 ≠ a26 := by rw [q26]; exact Nat.ne_of_lt (A24_o0.lt)
      have ne_o1_a26 : o1 ≠ a26 := by rw [q26]; exact Nat.ne_of_lt (A24_o1.lt)
      have s26 : h0.size ≤ a26 := Nat.le_trans K24.1 (Nat.le_of_eq q26.symm)
      have A26_o0 := Exa.ext E26 A24_o0
      have F26_o0_lane := Fld.ext E26 F24_o0_lane
      have F26_o0_length := Fld.ext E26 F24_o0_length
      have F26_o0_entry := Fld.ext E26 F24_o0_entry
      have F26_o0_filler := Fld.ext E26 F24_o0_filler
      have F26_o0_prefix := Fld.ext E26 F24_o0_prefix
      have F26_o0_lasts := Fld.ext E26 F24_o0_lasts
      have F26_o0_before := Fld.ext E26 F24_o0_before
      have A26_o1 := OAr.ext E26 A24_o1
      have z26 : n0 ≤ h26.size := Nat.le_trans z24 E26.1
      have K26 := Keep.ext K24 E26
      replace A26 : OAr Z h26 a26 .long (Int32.toNatClampNeg u_length) (cj (fun _ => 0)) := A26
      refine o_putF X26 hx hZ hown e26 (hw _ (List.mem_of_getElem? (i := 41) rfl)) Via.refl F26_o0_before A26_o0 (Or.inr ⟨(hw _ (List.mem_of_getElem? (i := 42) rfl)), rfl, hnm⟩) (hw _ (List.mem_of_getElem? (i := 7) rfl)) (ty := (.array .long)) (by decide) rfl rfl (hb hby d2_165) (pc' := 168) rfl ?_
      intro T28 h28 X28 e28 W28
      have F28_o0_before := Fld.same W28 F26_o0_before
      have A28_o0 := Exa.wr W28 A26_o0
      have F28_o0_lane := Fld.other W28 F26_o0_lane (Or.inr (slot_ne (Or.inr (hw _ (List.mem_of_getElem? (i := 20) rfl))) (Or.inr (hw _ (List.mem_of_getElem? (i := 42) rfl))) (by decide) (t := .int) (t' := (.array .long)) (by decide) (by decide)))
      have F28_o0_length := Fld.other W28 F26_o0_length (Or.inr (slot_ne (Or.inr (hw _ (List.mem_of_getElem? (i := 22) rfl))) (Or.inr (hw _ (List.mem_of_getElem? (i := 42) rfl))) (by decide) (t := .int) (t' := (.array .long)) (by decide) (by decide)))
      have F28_o0_entry := Fld.other W28 F26_o0_entry (Or.inr (slot_ne (Or.inr (hw _ (List.mem_of_getElem? (i := 24) rfl))) (Or.inr (hw _ (List.mem_of_getElem? (i := 42) rfl))) (by decide) (t := .int) (t' := (.array .long)) (by decide) (by decide)))
      have F28_o0_filler := Fld.other W28 F26_o0_filler (Or.inr (slot_ne (Or.inr (hw _ (List.mem_of_getElem? (i := 30) rfl))) (Or.inr (hw _ (List.mem_of_getElem? (i := 42) rfl))) (by decide) (t := .int) (t' := (.array .long)) (by decide) (by decide)))
      have F28_o0_prefix := Fld.other W28 F26_o0_prefix (Or.inr (slot_ne (Or.inr (hw _ (List.mem_of_getElem? (i := 36) rfl))) (Or.inr (hw _ (List.mem_of_getElem? (i := 42) rfl))) (by decide) (t := .long) (t' := (.array .long)) (by decide) (by decide)))
      have F28_o0_lasts := Fld.other W28 F26_o0_lasts (Or.inr (slot_ne (Or.inr (hw _ (List.mem_of_getElem? (i := 39) rfl))) (Or.inr (hw _ (List.mem_of_getElem? (i := 42) rfl))) (by decide) (t := .long) (t' := (.array .long)) (by decide) (by decide)))
      have A28_o1 := OAr.other W28 A26_o1 (Ne.symm ne_o0_o1)
      have A28_a26 := OAr.other W28 A26 (Ne.symm ne_o0_a26)
      have N28 := Fr.snoc X28 N24 g_o0
      have z28 : n0 ≤ h28.size := Nat.le_trans z26 (Keep.of_wr W28).1
      have K28 := Keep.wr K26 W28 (Or.inl (by simp))
      refine o_iconst X28 hx (hb hby d2_168) (0 : Int32) rfl (pc' := 169) rfl ?_
      refine o_istore X28 hx (hb hby d2_169) #[.val (.ref o0), .val (.ref o1), .val (.int d2), .val (.int d3), .val (.int x4), .val (.int (0 : Int32))] rfl (pc' := 171) rfl ?_
      exact b2_171 hx hZ hw hby hml hown hnm hret hlk o0 o1 5 u_lane u_length u_entry x4 (v19 <<< (u_entry &&& 0x3f).toInt64) ((((c_o1 (Int32.toNatClampNeg (u_length - (1 : Int32)))) &&& (255 : Int32)).toInt64) * (72340172838076673 : Int64)) c_o1 n_o1 a26 (fun _ => 0) u_length d2 d3 x4 (0 : Int32) r X28 e28 N28 z28 K28 A28_o0 F28_o0_lane F28_o0_length F28_o0_entry F28_o0_filler F28_o0_prefix F28_o0_lasts F28_o0_before g_o0 A28_o1 g_o1 A28_a26 (And.left hg27) g26 s26 ne_o0_o1 ne_o0_a26 ne_o1_a26 hr
    · rw [if_neg hc16] at hr
      refine o_ifNo X15 hx (hb hby d2_104) (z_feq hc16).1 (pc' := 107) rfl ?_
      refine o_iinc X15 hx (hb hby d2_107) (1 : Int32) rfl rfl #[.val (.ref o0), .val (.ref o1), .val (.int d2), .val (.int d3), .val (.int (x4 + (1 : Int32))), .unset] rfl (pc' := 110) rfl ?_
      refine o_goto X15 hx (hb hby d2_110) (pc' := 97) (by decide) (by decide) ?_
      exact ih u_lane u_length u_entry u_filler u_prefix u_lasts u_before c_o1 n_o1 d2 d3 (x4 + (1 : Int32)) r X15 e15 M15 hsz K E_o0 F_o0_lane F_o0_length F_o0_entry F_o0_filler F_o0_prefix F_o0_lasts F_o0_before g_o0 A_o1 g_o1 ne_o0_o1 hr
def f2_59 (c_o1 : (Nat → Int32)) (n_o1 : Nat) (t0 : Int32) : Option (Int32 × Int32 × Int32 × Int32 × Int64 × Int64) := (if t0 ≠ 0 then (f2_97 6 t0 (f4_0 (Nat.toInt32 n_o1) ((64 : Int32) / t0)) ((64 : Int32) - (t0 * (f4_0 (Nat.toInt32 n_o1) ((64 : Int32) / t0)))) c_o1 n_o1 (0 : Int32)) else none)
set_option maxRecDepth 65536 in
set_option maxHeartbeats 40000000 in
theorem b2_59 {p : Program} {l : Launch} {e : Env} {s : State} {m : MethodId} {args : Array Value} {below : List Frame} {meth : Method} {c : Code} {Z : State} {a0 : Array Value} {h0 : Heap} {n0 : Nat} (hx : p.tables.exec = Jvm.exec) (hZ : Z.Warmed39 s.vm) (hw : ∀ d ∈ tables_1, d.before a0 Z = true) (hby : c.code = prog_29_method_1_code) (hml : c.maxLocals = 6) (hown : s.vm.findClass "com/example/once_match/oncematch/PrefixRegister" = some m.cls) (hnm : meth.name = "<init>") (hret : meth.sig.returnType = none) (hlk : meth.locks = false) (o0 : Addr) (o1 : Addr) {T : State} {locs : List Loc} {h : Heap} (u_lane : Value) (u_length : Value) (u_entry : Value) (u_filler : Value) (u_prefix : Value) (u_lasts : Value) (u_before : Value) (c_o1 : Nat → Int32) (n_o1 : Nat) (d2 : Int32) (d3 : Int32) (d4 : Int32) (t0 : Int32) (r : Int32 × Int32 × Int32 × Int32 × Int64 × Int64) (X : Stand p l e ({ frames := 1, cells := 1, slots := 4, locals := 20 } : Room) s m args below meth c T locs 0 0) (eT : T.heap = h) (N : Fr n0 locs) (hsz : n0 ≤ h.size) (K : Keep h0 h [o0]) (E_o0 : Exa Z h o0 "com/example/once_match/oncematch/PrefixRegister") (F_o0_lane : Fld Z h o0 "com/example/once_match/oncematch/PrefixRegister" "lane" "I" u_lane) (F_o0_length : Fld Z h o0 "com/example/once_match/oncematch/PrefixRegister" "length" "I" u_length) (F_o0_entry : Fld Z h o0 "com/example/once_match/oncematch/PrefixRegister" "entry" "I" u_entry) (F_o0_filler : Fld Z h o0 "com/example/once_match/oncematch/PrefixRegister" "filler" "I" u_filler) (F_o0_prefix : Fld Z h o0 "com/example/once_match/oncematch/PrefixRegister" "prefix" "J" u_prefix) (F_o0_lasts : Fld Z h o0 "com/example/once_match/oncematch/PrefixRegister" "lasts" "J" u_lasts) (F_o0_before : Fld Z h o0 "com/example/once_match/oncematch/PrefixRegister" "before" "[J" u_before) (g_o0 : n0 ≤ o0) (A_o1 : OAr Z h o1 .char n_o1 (ci c_o1)) (g_o1 : n0 ≤ o1) (ne_o0_o1 : o0 ≠ o1) (hr : f2_59 c_o1 n_o1 t0 = some r) :
    OG p e below s (fun v h L => v = none ∧ Fr n0 L ∧ Keep h0 h [o0] ∧ Exa Z h o0 "com/example/once_match/oncematch/PrefixRegister" ∧ Fld Z h o0 "com/example/once_match/oncematch/PrefixRegister" "lane" "I" (.int r.1) ∧ Fld Z h o0 "com/example/once_match/oncematch/PrefixRegister" "length" "I" (.int r.2.1) ∧ Fld Z h o0 "com/example/once_match/oncematch/PrefixRegister" "entry" "I" (.int r.2.2.1) ∧ Fld Z h o0 "com/example/once_match/oncematch/PrefixRegister" "filler" "I" (.int r.2.2.2.1) ∧ Fld Z h o0 "com/example/once_match/oncematch/PrefixRegister" "prefix" "J" (.long r.2.2.2.2.1) ∧ Fld Z h o0 "com/example/once_match/oncematch/PrefixRegister" "lasts" "J" (.long r.2.2.2.2.2)) 1 4 T (mkF m 59 #[.val (.ref o0), .val (.ref o1), .val (.int d2), .val (.int d3), .val (.int d4), .unset] [(.int t0), (.ref o0)]) := by
  have hr : (if t0 ≠ 0 then (f2_97 6 t0 (f4_0 (Nat.toInt32 n_o1) ((64 : Int32) / t0)) ((64 : Int32) - (t0 * (f4_0 (Nat.toInt32 n_o1) ((64 : Int32) / t0)))) c_o1 n_o1 (0 : Int32)) else none) = some r := hr
  refine o_putF X hx hZ hown eT (hw _ (List.mem_of_getElem? (i := 19) rfl)) Via.refl F_o0_lane E_o0 (Or.inr ⟨(hw _ (List.mem_of_getElem? (i := 20) rfl)), rfl, hnm⟩) (hw _ (List.mem_of_getElem? (i := 7) rfl)) (ty := .int) (by decide) rfl rfl (hb hby d2_59) (pc' := 62) rfl ?_
  intro T7 h7 X7 e7 W7
  have F7_o0_lane := Fld.same W7 F_o0_lane
  have A7_o0 := Exa.wr W7 E_o0
  have F7_o0_length := Fld.other W7 F_o0_length (Or.inr (slot_ne (Or.inr (hw _ (List.mem_of_getElem? (i := 22) rfl))) (Or.inr (hw _ (List.mem_of_getElem? (i := 20) rfl))) (by decide) (t := .int) (t' := .int) (by decide) (by decide)))
  have F7_o0_entry := Fld.other W7 F_o0_entry (Or.inr (slot_ne (Or.inr (hw _ (List.mem_of_getElem? (i := 24) rfl))) (Or.inr (hw _ (List.mem_of_getElem? (i := 20) rfl))) (by decide) (t := .int) (t' := .int) (by decide) (by decide)))
  have F7_o0_filler := Fld.other W7 F_o0_filler (Or.inr (slot_ne (Or.inr (hw _ (List.mem_of_getElem? (i := 30) rfl))) (Or.inr (hw _ (List.mem_of_getElem? (i := 20) rfl))) (by decide) (t := .int) (t' := .int) (by decide) (by decide)))
  have F7_o0_prefix := Fld.other W7 F_o0_prefix (Or.inr (slot_ne (Or.inr (hw _ (List.mem_of_getElem? (i := 36) rfl))) (Or.inr (hw _ (List.mem_of_getElem? (i := 20) rfl))) (by decide) (t := .long) (t' := .int) (by decide) (by decide)))
  have F7_o0_lasts := Fld.other W7 F_o0_lasts (Or.inr (slot_ne (Or.inr (hw _ (List.mem_of_getElem? (i := 39) rfl))) (Or.inr (hw _ (List.mem_of_getElem? (i := 20) rfl))) (by decide) (t := .long) (t' := .int) (by decide) (by decide)))
  have F7_o0_before := Fld.other W7 F_o0_before (Or.inr (slot_ne (Or.inr (hw _ (List.mem_of_getElem? (i := 42) rfl))) (Or.inr (hw _ (List.mem_of_getElem? (i := 20) rfl))) (by decide) (t := (.array .long)) (t' := .int) (by decide) (by decide)))
  have A7_o1 := OAr.other W7 A_o1 (Ne.symm ne_o0_o1)
  have N7 := Fr.snoc X7 N g_o0
  have z7 : n0 ≤ h7.size := Nat.le_trans hsz (Keep.of_wr W7).1
  have K7 := Keep.wr K W7 (Or.inl (by simp))
  refine o_aload_n X7 hx (hb hby d2_62) rfl rfl (pc' := 63) rfl ?_
  refine o_aload_n X7 hx (hb hby d2_63) rfl rfl (pc' := 64) rfl ?_
  refine o_alen X7 hx hZ e7 A7_o1 (hb hby d2_64) (Nat.toInt32 n_o1) rfl (pc' := 65) rfl ?_
  refine o_bipush X7 hx (hb hby d2_65) (64 : Int32) rfl (pc' := 67) rfl ?_
  refine o_aload_n X7 hx (hb hby d2_67) rfl rfl (pc' := 68) rfl ?_
  refine o_getF X7 hx hZ hown e7 (hw _ (List.mem_of_getElem? (i := 19) rfl)) Via.refl F7_o0_lane (hb hby d2_68) (pc' := 71) rfl ?_
  intro T8 X8 e8
  by_cases hg9 : t0 ≠ 0
  case neg => rw [if_neg hg9] at hr; cases hr
  rw [if_pos hg9] at hr
  refine o_idiv X8 hx (hb hby d2_71) hg9 (pc' := 72) rfl ?_
  refine o_callS X8 hx hZ (argsL := [(.int (Nat.toInt32 n_o1)), (.int ((64 : Int32) / t0))]) (rest := [(.ref o0)]) 1 hown e8 (hw _ (List.mem_of_getElem? (i := 15) rfl)) (hw _ (List.mem_of_getElem? (i := 16) rfl)) (hw _ (List.mem_of_getElem? (i := 17) rfl)) (hw _ (List.mem_of_getElem? (i := 18) rfl)) (by decide) (rm4 l Z a0 hw [] (Nat.toInt32 n_o1) ((64 : Int32) / t0) h7 n0 z7 (f4_0 (Nat.toInt32 n_o1) ((64 : Int32) / t0)) rfl) (by decide) (by decide) (by rw [hml]; rfl) (lenOf pd_0 rfl) rfl (Nat.le_refl _) (hb hby d2_72) (pc' := 75) rfl (by decide) (by decide) ?_
  rintro _ T10 L10 X10 ⟨rfl, N10, e10⟩
  replace X10 : Stand p l e ({ frames := 1, cells := 1, slots := 4, locals := 20 } : Room) s m args below meth c T10 ((locs ++ [⟨o0, RoadKit.slotOf Z "com/example/once_match/oncematch/PrefixRegister" "lane" "I"⟩]) ++ L10) 0 0 := X10
  have M10 := Fr.app N7 N10
  dsimp only [Option.toList, List.cons_append, List.nil_append]
  refine o_putF X10 hx hZ hown e10 (hw _ (List.mem_of_getElem? (i := 21) rfl)) Via.refl F7_o0_length A7_o0 (Or.inr ⟨(hw _ (List.mem_of_getElem? (i := 22) rfl)), rfl, hnm⟩) (hw _ (List.mem_of_getElem? (i := 7) rfl)) (ty := .int) (by decide) rfl rfl (hb hby d2_75) (pc' := 78) rfl ?_
  intro T11 h11 X11 e11 W11
  have F11_o0_length := Fld.same W11 F7_o0_length
  have A11_o0 := Exa.wr W11 A7_o0
  have F11_o0_lane := Fld.other W11 F7_o0_lane (Or.inr (slot_ne (Or.inr (hw _ (List.mem_of_getElem? (i := 20) rfl))) (Or.inr (hw _ (List.mem_of_getElem? (i := 22) rfl))) (by decide) (t := .int) (t' := .int) (by decide) (by decide)))
  have F11_o0_entry := Fld.other W11 F7_o0_entry (Or.inr (slot_ne (Or.inr (hw _ (List.mem_of_getElem? (i := 24) rfl))) (Or.inr (hw _ (List.mem_of_getElem? (i := 22) rfl))) (by decide) (t := .int) (t' := .int) (by decide) (by decide)))
  have F11_o0_filler := Fld.other W11 F7_o0_filler (Or.inr (slot_ne (Or.inr (hw _ (List.mem_of_getElem? (i := 30) rfl))) (Or.inr (hw _ (List.mem_of_getElem? (i := 22) rfl))) (by decide) (t := .int) (t' := .int) (by decide) (by decide)))
  have F11_o0_prefix := Fld.other W11 F7_o0_prefix (Or.inr (slot_ne (Or.inr (hw _ (List.mem_of_getElem? (i := 36) rfl))) (Or.inr (hw _ (List.mem_of_getElem? (i := 22) rfl))) (by decide) (t := .long) (t' := .int) (by decide) (by decide)))
  have F11_o0_lasts := Fld.other W11 F7_o0_lasts (Or.inr (slot_ne (Or.inr (hw _ (List.mem_of_getElem? (i := 39) rfl))) (Or.inr (hw _ (List.mem_of_getElem? (i := 22) rfl))) (by decide) (t := .long) (t' := .int) (by decide) (by decide)))
  have F11_o0_before := Fld.other W11 F7_o0_before (Or.inr (slot_ne (Or.inr (hw _ (List.mem_of_getElem? (i := 42) rfl))) (Or.inr (hw _ (List.mem_of_getElem? (i := 22) rfl))) (by decide) (t := (.array .long)) (t' := .int) (by decide) (by decide)))
  have A11_o1 := OAr.other W11 A7_o1 (Ne.symm ne_o0_o1)
  have N11 := Fr.snoc X11 M10 g_o0
  have z11 : n0 ≤ h11.size := Nat.le_trans z7 (Keep.of_wr W11).1
  have K11 := Keep.wr K7 W11 (Or.inl (by simp))
  refine o_aload_n X11 hx (hb hby d2_78) rfl rfl (pc' := 79) rfl ?_
  refine o_bipush X11 hx (hb hby d2_79) (64 : Int32) rfl (pc' := 81) rfl ?_
  refine o_aload_n X11 hx (hb hby d2_81) rfl rfl (pc' := 82) rfl ?_
  refine o_getF X11 hx hZ hown e11 (hw _ (List.mem_of_getElem? (i := 19) rfl)) Via.refl F11_o0_lane (hb hby d2_82) (pc' := 85) rfl ?_
  intro T12 X12 e12
  refine o_aload_n X12 hx (hb hby d2_85) rfl rfl (pc' := 86) rfl ?_
  refine o_getF X12 hx hZ hown e12 (hw _ (List.mem_of_getElem? (i := 21) rfl)) Via.refl F11_o0_length (hb hby d2_86) (pc' := 89) rfl ?_
  intro T13 X13 e13
  refine o_imul X13 hx (hb hby d2_89) (pc' := 90) rfl ?_
  refine o_isub X13 hx (hb hby d2_90) (pc' := 91) rfl ?_
  refine o_putF X13 hx hZ hown e13 (hw _ (List.mem_of_getElem? (i := 23) rfl)) Via.refl F11_o0_entry A11_o0 (Or.inr ⟨(hw _ (List.mem_of_getElem? (i := 24) rfl)), rfl, hnm⟩) (hw _ (List.mem_of_getElem? (i := 7) rfl)) (ty := .int) (by decide) rfl rfl (hb hby d2_91) (pc' := 94) rfl ?_
  intro T14 h14 X14 e14 W14
  have F14_o0_entry := Fld.same W14 F11_o0_entry
  have A14_o0 := Exa.wr W14 A11_o0
  have F14_o0_lane := Fld.other W14 F11_o0_lane (Or.inr (slot_ne (Or.inr (hw _ (List.mem_of_getElem? (i := 20) rfl))) (Or.inr (hw _ (List.mem_of_getElem? (i := 24) rfl))) (by decide) (t := .int) (t' := .int) (by decide) (by decide)))
  have F14_o0_length := Fld.other W14 F11_o0_length (Or.inr (slot_ne (Or.inr (hw _ (List.mem_of_getElem? (i := 22) rfl))) (Or.inr (hw _ (List.mem_of_getElem? (i := 24) rfl))) (by decide) (t := .int) (t' := .int) (by decide) (by decide)))
  have F14_o0_filler := Fld.other W14 F11_o0_filler (Or.inr (slot_ne (Or.inr (hw _ (List.mem_of_getElem? (i := 30) rfl))) (Or.inr (hw _ (List.mem_of_getElem? (i := 24) rfl))) (by decide) (t := .int) (t' := .int) (by decide) (by decide)))
  have F14_o0_prefix := Fld.other W14 F11_o0_prefix (Or.inr (slot_ne (Or.inr (hw _ (List.mem_of_getElem? (i := 36) rfl))) (Or.inr (hw _ (List.mem_of_getElem? (i := 24) rfl))) (by decide) (t := .long) (t' := .int) (by decide) (by decide)))
  have F14_o0_lasts := Fld.other W14 F11_o0_lasts (Or.inr (slot_ne (Or.inr (hw _ (List.mem_of_getElem? (i := 39) rfl))) (Or.inr (hw _ (List.mem_of_getElem? (i := 24) rfl))) (by decide) (t := .long) (t' := .int) (by decide) (by decide)))
  have F14_o0_before := Fld.other W14 F11_o0_before (Or.inr (slot_ne (Or.inr (hw _ (List.mem_of_getElem? (i := 42) rfl))) (Or.inr (hw _ (List.mem_of_getElem? (i := 24) rfl))) (by decide) (t := (.array .long)) (t' := .int) (by decide) (by decide)))
  have A14_o1 := OAr.other W14 A11_o1 (Ne.symm ne_o0_o1)
  have N14 := Fr.snoc X14 N11 g_o0
  have z14 : n0 ≤ h14.size := Nat.le_trans z11 (Keep.of_wr W14).1
  have K14 := Keep.wr K11 W14 (Or.inl (by simp))
  refine o_iconst X14 hx (hb hby d2_94) (0 : Int32) rfl (pc' := 95) rfl ?_
  refine o_istore X14 hx (hb hby d2_95) #[.val (.ref o0), .val (.ref o1), .val (.int d2), .val (.int d3), .val (.int (0 : Int32)), .unset] rfl (pc' := 97) rfl ?_
  exact b2_97 hx hZ hw hby hml hown hnm hret hlk o0 o1 6 t0 (f4_0 (Nat.toInt32 n_o1) ((64 : Int32) / t0)) ((64 : Int32) - (t0 * (f4_0 (Nat.toInt32 n_o1) ((64 : Int32) / t0)))) u_filler u_prefix u_lasts u_before c_o1 n_o1 d2 d3 (0 : Int32) r X14 e14 N14 z14 K14 A14_o0 F14_o0_lane F14_o0_length F14_o0_entry F14_o0_filler F14_o0_prefix F14_o0_lasts F14_o0_before g_o0 A14_o1 g_o1 ne_o0_o1 hr
def f2_17 : Nat → (Nat → Int32) → Nat → Int32 → Int32 → Int32 → Option (Int32 × Int32 × Int32 × Int32 × Int64 × Int64)
  | 0, _, _, _, _, _ => none
  | k + 1, c_o1, n_o1, x2, x3, x4 => (if x4 < x2 then (if (¬ (x4 < 0) ∧ Int32.toNatClampNeg x4 < n_o1) then (if (255 : Int32) < (c_o1 (Int32.toNatClampNeg x4)) then (f2_17 k c_o1 n_o1 x2 (x3 &&& (0 : Int32)) (x4 + (1 : Int32))) else (f2_17 k c_o1 n_o1 x2 (x3 &&& (1 : Int32)) (x4 + (1 : Int32)))) else none) else (if x3 = (0 : Int32) then (f2_59 c_o1 n_o1 (16 : Int32)) else (f2_59 c_o1 n_o1 (8 : Int32))))
set_option maxRecDepth 65536 in
set_option maxHeartbeats 40000000 in
theorem b2_17 {p : Program} {l : Launch} {e : Env} {s : State} {m : MethodId} {args : Array Value} {below : List Frame} {meth : Method} {c : Code} {Z : State} {a0 : Array Value} {h0 : Heap} {n0 : Nat} (hx : p.tables.exec = Jvm.exec) (hZ : Z.Warmed39 s.vm) (hw : ∀ d ∈ tables_1, d.before a0 Z = true) (hby : c.code = prog_29_method_1_code) (hml : c.maxLocals = 6) (hown : s.vm.findClass "com/example/once_match/oncematch/PrefixRegister" = some m.cls) (hnm : meth.name = "<init>") (hret : meth.sig.returnType = none) (hlk : meth.locks = false) (o0 : Addr) (o1 : Addr) : ∀ (k : Nat) {T : State} {locs : List Loc} {h : Heap} (u_lane : Value) (u_length : Value) (u_entry : Value) (u_filler : Value) (u_prefix : Value) (u_lasts : Value) (u_before : Value) (c_o1 : Nat → Int32) (n_o1 : Nat) (x2 : Int32) (x3 : Int32) (x4 : Int32) (r : Int32 × Int32 × Int32 × Int32 × Int64 × Int64) (X : Stand p l e ({ frames := 1, cells := 1, slots := 4, locals := 20 } : Room) s m args below meth c T locs 0 0) (eT : T.heap = h) (N : Fr n0 locs) (hsz : n0 ≤ h.size) (K : Keep h0 h [o0]) (E_o0 : Exa Z h o0 "com/example/once_match/oncematch/PrefixRegister") (F_o0_lane : Fld Z h o0 "com/example/once_match/oncematch/PrefixRegister" "lane" "I" u_lane) (F_o0_length : Fld Z h o0 "com/example/once_match/oncematch/PrefixRegister" "length" "I" u_length) (F_o0_entry : Fld Z h o0 "com/example/once_match/oncematch/PrefixRegister" "entry" "I" u_entry) (F_o0_filler : Fld Z h o0 "com/example/once_match/oncematch/PrefixRegister" "filler" "I" u_filler) (F_o0_prefix : Fld Z h o0 "com/example/once_match/oncematch/PrefixRegister" "prefix" "J" u_prefix) (F_o0_lasts : Fld Z h o0 "com/example/once_match/oncematch/PrefixRegister" "lasts" "J" u_lasts) (F_o0_before : Fld Z h o0 "com/example/once_match/oncematch/PrefixRegister" "before" "[J" u_before) (g_o0 : n0 ≤ o0) (A_o1 : OAr Z h o1 .char n_o1 (ci c_o1)) (g_o1 : n0 ≤ o1) (ne_o0_o1 : o0 ≠ o1) (hr : f2_17 k c_o1 n_o1 x2 x3 x4 = some r),
    OG p e below s (fun v h L => v = none ∧ Fr n0 L ∧ Keep h0 h [o0] ∧ Exa Z h o0 "com/example/once_match/oncematch/PrefixRegister" ∧ Fld Z h o0 "com/example/once_match/oncematch/PrefixRegister" "lane" "I" (.int r.1) ∧ Fld Z h o0 "com/example/once_match/oncematch/PrefixRegister" "length" "I" (.int r.2.1) ∧ Fld Z h o0 "com/example/once_match/oncematch/PrefixRegister" "entry" "I" (.int r.2.2.1) ∧ Fld Z h o0 "com/example/once_match/oncematch/PrefixRegister" "filler" "I" (.int r.2.2.2.1) ∧ Fld Z h o0 "com/example/once_match/oncematch/PrefixRegister" "prefix" "J" (.long r.2.2.2.2.1) ∧ Fld Z h o0 "com/example/once_match/oncematch/PrefixRegister" "lasts" "J" (.long r.2.2.2.2.2)) 1 4 T (mkF m 17 #[.val (.ref o0), .val (.ref o1), .val (.int x2), .val (.int x3), .val (.int x4), .unset] []) := by
  intro k
  induction k with
  | zero => intros; rename_i hr; exact absurd hr (by intro q; cases q)
  | succ k ih =>
    intro T locs h u_lane u_length u_entry u_filler u_prefix u_lasts u_before c_o1 n_o1 x2 x3 x4 r X eT N hsz K E_o0 F_o0_lane F_o0_length F_o0_entry F_o0_filler F_o0_prefix F_o0_lasts F_o0_before g_o0 A_o1 g_o1 ne_o0_o1 hr
    have hr : (if x4 < x2 then (if (¬ (x4 < 0) ∧ Int32.toNatClampNeg x4 < n_o1) then (if (255 : Int32) < (c_o1 (Int32.toNatClampNeg x4)) then (f2_17 k c_o1 n_o1 x2 (x3 &&& (0 : Int32)) (x4 + (1 : Int32))) else (f2_17 k c_o1 n_o1 x2 (x3 &&& (1 : Int32)) (x4 + (1 : Int32)))) else none) else (if x3 = (0 : Int32) then (f2_59 c_o1 n_o1 (16 : Int32)) else (f2_59 c_o1 n_o1 (8 : Int32)))) = some r := hr
    refine o_iload X hx (hb hby d2_17) rfl (pc' := 19) rfl ?_
    refine o_iload_n X hx (hb hby d2_19) rfl (pc' := 20) rfl ?_
    by_cases hc3 : x4 < x2
    · rw [if_pos hc3] at hr
      refine o_icmpNo X hx (hb hby d2_20) (c_tlt hc3).2 (pc' := 23) rfl ?_
      refine o_iload_n X hx (hb hby d2_23) rfl (pc' := 24) rfl ?_
      refine o_aload_n X hx (hb hby d2_24) rfl rfl (pc' := 25) rfl ?_
      refine o_iload X hx (hb hby d2_25) rfl (pc' := 27) rfl ?_
      by_cases hg4 : (¬ (x4 < 0) ∧ Int32.toNatClampNeg x4 < n_o1)
      case neg => rw [if_neg hg4] at hr; cases hr
      rw [if_pos hg4] at hr
      refine o_caload X hx hZ eT A_o1 (hb hby d2_27) (And.left hg4) (And.right hg4) (c_o1 (Int32.toNatClampNeg x4)) rfl (pc' := 28) rfl ?_
      refine o_sipush X hx (hb hby d2_28) (255 : Int32) rfl (pc' := 31) rfl ?_
      by_cases hc5 : (255 : Int32) < (c_o1 (Int32.toNatClampNeg x4))
      · rw [if_pos hc5] at hr
        refine o_icmpYes X hx (hb hby d2_31) (c_tgt hc5).1 (pc' := 38) (by decide) (by decide) ?_
        refine o_iconst X hx (hb hby d2_38) (0 : Int32) rfl (pc' := 39) rfl ?_
        refine o_iand X hx (hb hby d2_39) (pc' := 40) rfl ?_
        refine o_istore_n X hx (hb hby d2_40) #[.val (.ref o0), .val (.ref o1), .val (.int x2), .val (.int (x3 &&& (0 : Int32))), .val (.int x4), .unset] rfl (pc' := 41) rfl ?_
        refine o_iinc X hx (hb hby d2_41) (1 : Int32) rfl rfl #[.val (.ref o0), .val (.ref o1), .val (.int x2), .val (.int (x3 &&& (0 : Int32))), .val (.int (x4 + (1 : Int32))), .unset] rfl (pc' := 44) rfl ?_
        refine o_goto X hx (hb hby d2_44) (pc' := 17) (by decide) (by decide) ?_
        exact ih u_lane u_length u_entry u_filler u_prefix u_lasts u_before c_o1 n_o1 x2 (x3 &&& (0 : Int32)) (x4 + (1 : Int32)) r X eT N hsz K E_o0 F_o0_lane F_o0_length F_o0_entry F_o0_filler F_o0_prefix F_o0_lasts F_o0_before g_o0 A_o1 g_o1 ne_o0_o1 hr
      · rw [if_neg hc5] at hr
        refine o_icmpNo X hx (hb hby d2_31) (c_fgt hc5).1 (pc' := 34) rfl ?_
        refine o_iconst X hx (hb hby d2_34) (1 : Int32) rfl (pc' := 35) rfl ?_
        refine o_goto X hx (hb hby d2_35) (pc' := 39) (by decide) (by decide) ?_
        refine o_iand X hx (hb hby d2_39) (pc' := 40) rfl ?_
        refine o_istore_n X hx (hb hby d2_40) #[.val (.ref o0), .val (.ref o1), .val (.int x2), .val (.int (x3 &&& (1 : Int32))), .val (.int x4), .unset] rfl (pc' := 41) rfl ?_
        refine o_iinc X hx (hb hby d2_41) (1 : Int32) rfl rfl #[.val (.ref o0), .val (.ref o1), .val (.int x2), .val (.int (x3 &&& (1 : Int32))), .val (.int (x4 + (1 : Int32))), .unset] rfl (pc' := 44) rfl ?_
        refine o_goto X hx (hb hby d2_44) (pc' := 17) (by decide) (by decide) ?_
        exact ih u_lane u_length u_entry u_filler u_prefix u_lasts u_before c_o1 n_o1 x2 (x3 &&& (1 : Int32)) (x4 + (1 : Int32)) r X eT N hsz K E_o0 F_o0_lane F_o0_length F_o0_entry F_o0_filler F_o0_prefix F_o0_lasts F_o0_before g_o0 A_o1 g_o1 ne_o0_o1 hr
    · rw [if_neg hc3] at hr
      refine o_icmpYes X hx (hb hby d2_20) (c_flt hc3).2 (pc' := 47) (by decide) (by decide) ?_
      refine o_aload_n X hx (hb hby d2_47) rfl rfl (pc' := 48) rfl ?_
      refine o_iload_n X hx (hb hby d2_48) rfl (pc' := 49) rfl ?_
      by_cases hc6 : x3 = (0 : Int32)
      · rw [if_pos hc6] at hr
        refine o_ifYes X hx (hb hby d2_49) (z_teq hc6).1 (pc' := 57) (by decide) (by decide) ?_
        refine o_bipush X hx (hb hby d2_57) (16 : Int32) rfl (pc' := 59) rfl ?_
        exact b2_59 hx hZ hw hby hml hown hnm hret hlk o0 o1 u_lane u_length u_entry u_filler u_prefix u_lasts u_before c_o1 n_o1 x2 x3 x4 (16 : Int32) r X eT N hsz K E_o0 F_o0_lane F_o0_length F_o0_entry F_o0_filler F_o0_prefix F_o0_lasts F_o0_before g_o0 A_o1 g_o1 ne_o0_o1 hr
      · rw [if_neg hc6] at hr
        refine o_ifNo X hx (hb hby d2_49) (z_feq hc6).1 (pc' := 52) rfl ?_
        refine o_bipush X hx (hb hby d2_52) (8 : Int32) rfl (pc' := 54) rfl ?_
        refine o_goto X hx (hb hby d2_54) (pc' := 59) (by decide) (by decide) ?_
        exact b2_59 hx hZ hw hby hml hown hnm hret hlk o0 o1 u_lane u_length u_entry u_filler u_prefix u_lasts u_before c_o1 n_o1 x2 x3 x4 (8 : Int32) r X eT N hsz K E_o0 F_o0_lane F_o0_length F_o0_entry F_o0_filler F_o0_prefix F_o0_lasts F_o0_before g_o0 A_o1 g_o1 ne_o0_o1 hr
def f2_0 (c_o1 : (Nat → Int32)) (n_o1 : Nat) : Option (Int32 × Int32 × Int32 × Int32 × Int64 × Int64) := (f2_17 5 c_o1 n_o1 (f4_0 (Nat.toInt32 n_o1) (8 : Int32)) (1 : Int32) (0 : Int32))
set_option maxRecDepth 65536 in
set_option maxHeartbeats 40000000 in
theorem b2_0 {p : Program} {l : Launch} {e : Env} {s : State} {m : MethodId} {args : Array Value} {below : List Frame} {meth : Method} {c : Code} {Z : State} {a0 : Array Value} {h0 : Heap} {n0 : Nat} (hx : p.tables.exec = Jvm.exec) (hZ : Z.Warmed39 s.vm) (hw : ∀ d ∈ tables_1, d.before a0 Z = true) (hby : c.code = prog_29_method_1_code) (hml : c.maxLocals = 6) (hown : s.vm.findClass "com/example/once_match/oncematch/PrefixRegister" = some m.cls) (hnm : meth.name = "<init>") (hret : meth.sig.returnType = none) (hlk : meth.locks = false) (o0 : Addr) (o1 : Addr) {T : State} {locs : List Loc} {h : Heap} (u_lane : Value) (u_length : Value) (u_entry : Value) (u_filler : Value) (u_prefix : Value) (u_lasts : Value) (u_before : Value) (c_o1 : Nat → Int32) (n_o1 : Nat) (r : Int32 × Int32 × Int32 × Int32 × Int64 × Int64) (X : Stand p l e ({ frames := 1, cells := 1, slots := 4, locals := 20 } : Room) s m args below meth c T locs 0 0) (eT : T.heap = h) (N : Fr n0 locs) (hsz : n0 ≤ h.size) (K : Keep h0 h [o0]) (E_o0 : Exa Z h o0 "com/example/once_match/oncematch/PrefixRegister") (F_o0_lane : Fld Z h o0 "com/example/once_match/oncematch/PrefixRegister" "lane" "I" u_lane) (F_o0_length : Fld Z h o0 "com/example/once_match/oncematch/PrefixRegister" "length" "I" u_length) (F_o0_entry : Fld Z h o0 "com/example/once_match/oncematch/PrefixRegister" "entry" "I" u_entry) (F_o0_filler : Fld Z h o0 "com/example/once_match/oncematch/PrefixRegister" "filler" "I" u_filler) (F_o0_prefix : Fld Z h o0 "com/example/once_match/oncematch/PrefixRegister" "prefix" "J" u_prefix) (F_o0_lasts : Fld Z h o0 "com/example/once_match/oncematch/PrefixRegister" "lasts" "J" u_lasts) (F_o0_before : Fld Z h o0 "com/example/once_match/oncematch/PrefixRegister" "before" "[J" u_before) (g_o0 : n0 ≤ o0) (A_o1 : OAr Z h o1 .char n_o1 (ci c_o1)) (g_o1 : n0 ≤ o1) (ne_o0_o1 : o0 ≠ o1) (hr : f2_0 c_o1 n_o1 = some r) :
    OG p e below s (fun v h L => v = none ∧ Fr n0 L ∧ Keep h0 h [o0] ∧ Exa Z h o0 "com/example/once_match/oncematch/PrefixRegister" ∧ Fld Z h o0 "com/example/once_match/oncematch/PrefixRegister" "lane" "I" (.int r.1) ∧ Fld Z h o0 "com/example/once_match/oncematch/PrefixRegister" "length" "I" (.int r.2.1) ∧ Fld Z h o0 "com/example/once_match/oncematch/PrefixRegister" "entry" "I" (.int r.2.2.1) ∧ Fld Z h o0 "com/example/once_match/oncematch/PrefixRegister" "filler" "I" (.int r.2.2.2.1) ∧ Fld Z h o0 "com/example/once_match/oncematch/PrefixRegister" "prefix" "J" (.long r.2.2.2.2.1) ∧ Fld Z h o0 "com/example/once_match/oncematch/PrefixRegister" "lasts" "J" (.long r.2.2.2.2.2)) 1 4 T (mkF m 0 #[.val (.ref o0), .val (.ref o1), .unset, .unset, .unset, .unset] []) := by
  have hr : (f2_17 5 c_o1 n_o1 (f4_0 (Nat.toInt32 n_o1) (8 : Int32)) (1 : Int32) (0 : Int32)) = some r := hr
  refine o_aload_n X hx (hb hby d2_0) rfl rfl (pc' := 1) rfl ?_
  refine o_initO X hx hZ 0 hown eT (hw _ (List.mem_of_getElem? (i := 12) rfl)) (hw _ (List.mem_of_getElem? (i := 13) rfl)) (hw _ (List.mem_of_getElem? (i := 14) rfl)) (by rw [hml]; rfl) (hb hby d2_1) (by decide) (Nat.le_refl _) (by decide) (pc' := 4) rfl ?_
  intro T1 X1 e1
  refine o_aload_n X1 hx (hb hby d2_4) rfl rfl (pc' := 5) rfl ?_
  refine o_alen X1 hx hZ e1 A_o1 (hb hby d2_5) (Nat.toInt32 n_o1) rfl (pc' := 6) rfl ?_
  refine o_bipush X1 hx (hb hby d2_6) (8 : Int32) rfl (pc' := 8) rfl ?_
  refine o_callS X1 hx hZ (argsL := [(.int (Nat.toInt32 n_o1)), (.int (8 : Int32))]) (rest := []) 0 hown e1 (hw _ (List.mem_of_getElem? (i := 15) rfl)) (hw _ (List.mem_of_getElem? (i := 16) rfl)) (hw _ (List.mem_of_getElem? (i := 17) rfl)) (hw _ (List.mem_of_getElem? (i := 18) rfl)) (by decide) (rm4 l Z a0 hw [] (Nat.toInt32 n_o1) (8 : Int32) h n0 hsz (f4_0 (Nat.toInt32 n_o1) (8 : Int32)) rfl) (by decide) (by decide) (by rw [hml]; rfl) (lenOf pd_0 rfl) rfl (Nat.le_refl _) (hb hby d2_8) (pc' := 11) rfl (by decide) (by decide) ?_
  rintro _ T2 L2 X2 ⟨rfl, N2, e2⟩
  replace X2 : Stand p l e ({ frames := 1, cells := 1, slots := 4, locals := 20 } : Room) s m args below meth c T2 (locs ++ L2) 0 0 := X2
  have M2 := Fr.app N N2
  dsimp only [Option.toList, List.cons_append, List.nil_append]
  refine o_istore_n X2 hx (hb hby d2_11) #[.val (.ref o0), .val (.ref o1), .val (.int (f4_0 (Nat.toInt32 n_o1) (8 : Int32))), .unset, .unset, .unset] rfl (pc' := 12) rfl ?_
  refine o_iconst X2 hx (hb hby d2_12) (1 : Int32) rfl (pc' := 13) rfl ?_
  refine o_istore_n X2 hx (hb hby d2_13) #[.val (.ref o0), .val (.ref o1), .val (.int (f4_0 (Nat.toInt32 n_o1) (8 : Int32))), .val (.int (1 : Int32)), .unset, .unset] rfl (pc' := 14) rfl ?_
  refine o_iconst X2 hx (hb hby d2_14) (0 : Int32) rfl (pc' := 15) rfl ?_
  refine o_istore X2 hx (hb hby d2_15) #[.val (.ref o0), .val (.ref o1), .val (.int (f4_0 (Nat.toInt32 n_o1) (8 : Int32))), .val (.int (1 : Int32)), .val (.int (0 : Int32)), .unset] rfl (pc' := 17) rfl ?_
  exact b2_17 hx hZ hw hby hml hown hnm hret hlk o0 o1 5 u_lane u_length u_entry u_filler u_prefix u_lasts u_before c_o1 n_o1 (f4_0 (Nat.toInt32 n_o1) (8 : Int32)) (1 : Int32) (0 : Int32) r X2 e2 M2 hsz K E_o0 F_o0_lane F_o0_length F_o0_entry F_o0_filler F_o0_prefix F_o0_lasts F_o0_before g_o0 A_o1 g_o1 ne_o0_o1 hr
theorem pn_2 : plainName "com/example/once_match/oncematch/PrefixRegister" = true := by first | (simp [plainName, overriddenIn]; done) | decide +kernel
theorem ef_2 (m : MethodId) (o0 : Addr) (o1 : Addr) : entryFrame m #[(.ref o0), (.ref o1)] 6 = (mkF m 0 #[.val (.ref o0), .val (.ref o1), .unset, .unset, .unset, .unset] []) := by first | (simp [entryFrame, mkF, argsToLocals, Value.category]; done) | rfl
def Qd2 (Z : State) (h0 : Heap) (n0 : Nat) (o0 : Addr) (o1 : Addr) (u_lane : Value) (u_length : Value) (u_entry : Value) (u_filler : Value) (u_prefix : Value) (u_lasts : Value) (u_before : Value) (c_o1 : Nat → Int32) (n_o1 : Nat) (r : Int32 × Int32 × Int32 × Int32 × Int64 × Int64) : Option Value → Heap → List Loc → Prop := (fun v h L => v = none ∧ Fr n0 L ∧ Keep h0 h [o0] ∧ Exa Z h o0 "com/example/once_match/oncematch/PrefixRegister" ∧ Fld Z h o0 "com/example/once_match/oncematch/PrefixRegister" "lane" "I" (.int r.1) ∧ Fld Z h o0 "com/example/once_match/oncematch/PrefixRegister" "length" "I" (.int r.2.1) ∧ Fld Z h o0 "com/example/once_match/oncematch/PrefixRegister" "entry" "I" (.int r.2.2.1) ∧ Fld Z h o0 "com/example/once_match/oncematch/PrefixRegister" "filler" "I" (.int r.2.2.2.1) ∧ Fld Z h o0 "com/example/once_match/oncematch/PrefixRegister" "prefix" "J" (.long r.2.2.2.2.1) ∧ Fld Z h o0 "com/example/once_match/oncematch/PrefixRegister" "lasts" "J" (.long r.2.2.2.2.2))
set_option maxRecDepth 65536 in
set_option maxHeartbeats 40000000 in
theorem rm2 (l : Launch) (Z : State) (a0 : Array Value) (hw : ∀ d ∈ tables_1, d.before a0 Z = true) (ws : List Jvm.Cond) (o0 : Addr) (o1 : Addr) (u_lane : Value) (u_length : Value) (u_entry : Value) (u_filler : Value) (u_prefix : Value) (u_lasts : Value) (u_before : Value) (c_o1 : Nat → Int32) (n_o1 : Nat) (h0 : Heap) (n0 : Nat) (Z0 : n0 ≤ h0.size) (E_o0 : Exa Z h0 o0 "com/example/once_match/oncematch/PrefixRegister") (F_o0_lane : Fld Z h0 o0 "com/example/once_match/oncematch/PrefixRegister" "lane" "I" u_lane) (F_o0_length : Fld Z h0 o0 "com/example/once_match/oncematch/PrefixRegister" "length" "I" u_length) (F_o0_entry : Fld Z h0 o0 "com/example/once_match/oncematch/PrefixRegister" "entry" "I" u_entry) (F_o0_filler : Fld Z h0 o0 "com/example/once_match/oncematch/PrefixRegister" "filler" "I" u_filler) (F_o0_prefix : Fld Z h0 o0 "com/example/once_match/oncematch/PrefixRegister" "prefix" "J" u_prefix) (F_o0_lasts : Fld Z h0 o0 "com/example/once_match/oncematch/PrefixRegister" "lasts" "J" u_lasts) (F_o0_before : Fld Z h0 o0 "com/example/once_match/oncematch/PrefixRegister" "before" "[J" u_before) (g_o0 : n0 ≤ o0) (A_o1 : OAr Z h0 o1 .char n_o1 (ci c_o1)) (g_o1 : n0 ≤ o1) (ne_o0_o1 : o0 ≠ o1) (r : Int32 × Int32 × Int32 × Int32 × Int64 × Int64) (hr : f2_0 c_o1 n_o1 = some r) :
    MetFree l (⟨"com/example/once_match/oncematch/PrefixRegister", "<init>", "([C)V"⟩ : MethodName) (head1 (Jvm.Cond.code (⟨"com/example/once_match/oncematch/PrefixRegister", "<init>", "([C)V"⟩ : MethodName) prog_29_method_1_code 6 none :: ws) ({ frames := 1, cells := 1, slots := 4, locals := 20 } : Room)) (fun a U => a = #[(.ref o0), (.ref o1)] ∧ Z.Warmed39 U.vm ∧ U.heap = h0) (fun _ _ _ _ _ => True) (fun _ U o U' => ∃ v L, o = .returned v ∧ (Qd2 Z h0 n0 o0 o1 u_lane u_length u_entry u_filler u_prefix u_lasts u_before c_o1 n_o1 r) v U'.heap L ∧ FrameEnd U o U' L ({ frames := 1, cells := 1, slots := 4, locals := 20 } : Room).cells ({ frames := 1, cells := 1, slots := 4, locals := 20 } : Room).slots) := by
  refine MetFree.of_bodySF (plainFor_of_name pn_2) hisR ?_
  intro p e s m args below meth c s₁ Bd hml0 hP hK
  obtain ⟨rfl, hZ, hh⟩ := hP
  have e0 : s₁.heap = h0 := by rw [← hh, Bd.state]; rfl
  exact OG.cast (ef_2 m o0 o1) (b2_0 Bd.exec hZ hw Bd.bytes hml0 (findClass_of_methodNamed Bd.named) (name_of_methodNamed Bd.named Bd.method).1 Bd.returns Bd.notSynchronized o0 o1 u_lane u_length u_entry u_filler u_prefix u_lasts u_before c_o1 n_o1 r (Stand.of_body Bd) e0 (Fr.nil n0) Z0 (Keep.refl h0 [o0]) E_o0 F_o0_lane F_o0_length F_o0_entry F_o0_filler F_o0_prefix F_o0_lasts F_o0_before g_o0 A_o1 g_o1 ne_o0_o1 hr)
theorem d7_0 : decode prog_29_method_12_code 0 = .ok (.aload_n 0, 1) := by decide +kernel
theorem d7_1 : decode prog_29_method_12_code 1 = .ok (.getfield 25, 3) := by decide +kernel
theorem d7_4 : decode prog_29_method_12_code 4 = .ok (.iconst 1, 1) := by decide +kernel
theorem d7_5 : decode prog_29_method_12_code 5 = .ok (.isub, 1) := by decide +kernel
theorem d7_6 : decode prog_29_method_12_code 6 = .ok (.istore_n 3, 1) := by decide +kernel
theorem d7_7 : decode prog_29_method_12_code 7 = .ok (.iload_n 3, 1) := by decide +kernel
theorem d7_8 : decode prog_29_method_12_code 8 = .ok (.ifCond .le 48, 3) := by decide +kernel
theorem d7_11 : decode prog_29_method_12_code 11 = .ok (.lload_n 1, 1) := by decide +kernel
theorem d7_12 : decode prog_29_method_12_code 12 = .ok (.lconst 1, 1) := by decide +kernel
theorem d7_13 : decode prog_29_method_12_code 13 = .ok (.aload_n 0, 1) := by decide +kernel
theorem d7_14 : decode prog_29_method_12_code 14 = .ok (.getfield 21, 3) := by decide +kernel
theorem d7_17 : decode prog_29_method_12_code 17 = .ok (.iload_n 3, 1) := by decide +kernel
theorem d7_18 : decode prog_29_method_12_code 18 = .ok (.imul, 1) := by decide +kernel
theorem d7_19 : decode prog_29_method_12_code 19 = .ok (.lshl, 1) := by decide +kernel
theorem d7_20 : decode prog_29_method_12_code 20 = .ok (.lconst 1, 1) := by decide +kernel
theorem d7_21 : decode prog_29_method_12_code 21 = .ok (.lsub, 1) := by decide +kernel
theorem d7_22 : decode prog_29_method_12_code 22 = .ok (.land, 1) := by decide +kernel
theorem d7_23 : decode prog_29_method_12_code 23 = .ok (.aload_n 0, 1) := by decide +kernel
theorem d7_24 : decode prog_29_method_12_code 24 = .ok (.getfield 42, 3) := by decide +kernel
theorem d7_27 : decode prog_29_method_12_code 27 = .ok (.aload_n 0, 1) := by decide +kernel
theorem d7_28 : decode prog_29_method_12_code 28 = .ok (.getfield 28, 3) := by decide +kernel
theorem d7_31 : decode prog_29_method_12_code 31 = .ok (.aload_n 0, 1) := by decide +kernel
theorem d7_32 : decode prog_29_method_12_code 32 = .ok (.getfield 21, 3) := by decide +kernel
theorem d7_35 : decode prog_29_method_12_code 35 = .ok (.aload_n 0, 1) := by decide +kernel
theorem d7_36 : decode prog_29_method_12_code 36 = .ok (.getfield 25, 3) := by decide +kernel
theorem d7_39 : decode prog_29_method_12_code 39 = .ok (.iload_n 3, 1) := by decide +kernel
theorem d7_40 : decode prog_29_method_12_code 40 = .ok (.isub, 1) := by decide +kernel
theorem d7_41 : decode prog_29_method_12_code 41 = .ok (.imul, 1) := by decide +kernel
theorem d7_42 : decode prog_29_method_12_code 42 = .ok (.iadd, 1) := by decide +kernel
theorem d7_43 : decode prog_29_method_12_code 43 = .ok (.lushr, 1) := by decide +kernel
theorem d7_44 : decode prog_29_method_12_code 44 = .ok (.lcmp, 1) := by decide +kernel
theorem d7_45 : decode prog_29_method_12_code 45 = .ok (.ifCond .ne 5, 3) := by decide +kernel
theorem d7_48 : decode prog_29_method_12_code 48 = .ok (.iload_n 3, 1) := by decide +kernel
theorem d7_49 : decode prog_29_method_12_code 49 = .ok (.ireturn, 1) := by decide +kernel
theorem d7_50 : decode prog_29_method_12_code 50 = .ok (.iinc 3 (-1), 3) := by decide +kernel
theorem d7_53 : decode prog_29_method_12_code 53 = .ok (.goto (-46), 3) := by decide +kernel
theorem d7_56 : decode prog_29_method_12_code 56 = .ok (.iconst 0, 1) := by decide +kernel
theorem d7_57 : decode prog_29_method_12_code 57 = .ok (.ireturn, 1) := by decide +kernel
def f7_7 : Nat → Int32 → Int32 → Int64 → Int32 → Int64 → Int32 → Option (Int32)
  | 0, _, _, _, _, _, _ => none
  | k + 1, u_length, u_lane, u_prefix, u_entry, x1, x3 => (if (0 : Int32) < x3 then (if (x1 &&& (((1 : Int64) <<< ((u_lane * x3) &&& 0x3f).toInt64) - (1 : Int64))) = ((u_prefix.toUInt64 >>> ((u_entry + (u_lane * (u_length - x3))) &&& 0x3f).toInt64.toUInt64).toInt64) then (some x3) else (f7_7 k u_length u_lane u_prefix u_entry x1 (x3 + (-1 : Int32)))) else (some (0 : Int32)))
set_option maxRecDepth 65536 in
set_option maxHeartbeats 40000000 in
theorem b7_7 {p : Program} {l : Launch} {e : Env} {s : State} {m : MethodId} {args : Array Value} {below : List Frame} {meth : Method} {c : Code} {Z : State} {a0 : Array Value} {h0 : Heap} {n0 : Nat} (hx : p.tables.exec = Jvm.exec) (hZ : Z.Warmed39 s.vm) (hw : ∀ d ∈ tables_1, d.before a0 Z = true) (hby : c.code = prog_29_method_12_code) (hml : c.maxLocals = 4) (hown : s.vm.findClass "com/example/once_match/oncematch/PrefixRegister" = some m.cls) (hnm : meth.name = "stateAtEnd") (hret : meth.sig.returnType = some .int) (hlk : meth.locks = false) (o0 : Addr) : ∀ (k : Nat) {T : State} {locs : List Loc} (u_length : Int32) (u_lane : Int32) (u_prefix : Int64) (u_entry : Int32) (x1 : Int64) (x3 : Int32) (r : Int32) (X : Stand p l e ({ frames := 0, cells := 0, slots := 0, locals := 0 } : Room) s m args below meth c T locs 0 0) (eT : T.heap = h0) (N : Fr n0 locs) (Z0 : n0 ≤ h0.size) (E_o0 : Exa Z h0 o0 "com/example/once_match/oncematch/PrefixRegister") (F_o0_length : Fld Z h0 o0 "com/example/once_match/oncematch/PrefixRegister" "length" "I" (.int u_length)) (F_o0_lane : Fld Z h0 o0 "com/example/once_match/oncematch/PrefixRegister" "lane" "I" (.int u_lane)) (F_o0_prefix : Fld Z h0 o0 "com/example/once_match/oncematch/PrefixRegister" "prefix" "J" (.long u_prefix)) (F_o0_entry : Fld Z h0 o0 "com/example/once_match/oncematch/PrefixRegister" "entry" "I" (.int u_entry)) (hr : f7_7 k u_length u_lane u_prefix u_entry x1 x3 = some r),
    OG p e below s (fun v h L => v = (some (.int r)) ∧ Fr n0 L ∧ h = h0) 0 0 T (mkF m 7 #[.val (.ref o0), .val (.long x1), .second, .val (.int x3)] []) := by
  intro k
  induction k with
  | zero => intros; rename_i hr; exact absurd hr (by intro q; cases q)
  | succ k ih =>
    intro T locs u_length u_lane u_prefix u_entry x1 x3 r X eT N Z0 E_o0 F_o0_length F_o0_lane F_o0_prefix F_o0_entry hr
    have hr : (if (0 : Int32) < x3 then (if (x1 &&& (((1 : Int64) <<< ((u_lane * x3) &&& 0x3f).toInt64) - (1 : Int64))) = ((u_prefix.toUInt64 >>> ((u_entry + (u_lane * (u_length - x3))) &&& 0x3f).toInt64.toUInt64).toInt64) then (some x3) else (f7_7 k u_length u_lane u_prefix u_entry x1 (x3 + (-1 : Int32)))) else (some (0 : Int32))) = some r := hr
    refine o_iload_n X hx (hb hby d7_7) rfl (pc' := 8) rfl ?_
    by_cases hc2 : (0 : Int32) < x3
    · rw [if_pos hc2] at hr
      refine o_ifNo X hx (hb hby d7_8) (z_tgt hc2).2 (pc' := 11) rfl ?_
      refine o_lload_n X hx (hb hby d7_11) rfl (pc' := 12) rfl ?_
      refine o_lconst X hx (hb hby d7_12) (1 : Int64) rfl (pc' := 13) rfl ?_
      refine o_aload_n X hx (hb hby d7_13) rfl rfl (pc' := 14) rfl ?_
      refine o_getF X hx hZ hown eT (hw _ (List.mem_of_getElem? (i := 19) rfl)) Via.refl F_o0_lane (hb hby d7_14) (pc' := 17) rfl ?_
      intro T3 X3 e3
      refine o_iload_n X3 hx (hb hby d7_17) rfl (pc' := 18) rfl ?_
      refine o_imul X3 hx (hb hby d7_18) (pc' := 19) rfl ?_
      refine o_lshl X3 hx (hb hby d7_19) (pc' := 20) rfl ?_
      refine o_lconst X3 hx (hb hby d7_20) (1 : Int64) rfl (pc' := 21) rfl ?_
      refine o_lsub X3 hx (hb hby d7_21) (pc' := 22) rfl ?_
      refine o_land X3 hx (hb hby d7_22) (pc' := 23) rfl ?_
      refine o_aload_n X3 hx (hb hby d7_23) rfl rfl (pc' := 24) rfl ?_
      refine o_getF X3 hx hZ hown e3 (hw _ (List.mem_of_getElem? (i := 35) rfl)) Via.refl F_o0_prefix (hb hby d7_24) (pc' := 27) rfl ?_
      intro T4 X4 e4
      refine o_aload_n X4 hx (hb hby d7_27) rfl rfl (pc' := 28) rfl ?_
      refine o_getF X4 hx hZ hown e4 (hw _ (List.mem_of_getElem? (i := 23) rfl)) Via.refl F_o0_entry (hb hby d7_28) (pc' := 31) rfl ?_
      intro T5 X5 e5
      refine o_aload_n X5 hx (hb hby d7_31) rfl rfl (pc' := 32) rfl ?_
      refine o_getF X5 hx hZ hown e5 (hw _ (List.mem_of_getElem? (i := 19) rfl)) Via.refl F_o0_lane (hb hby d7_32) (pc' := 35) rfl ?_
      intro T6 X6 e6
      refine o_aload_n X6 hx (hb hby d7_35) rfl rfl (pc' := 36) rfl ?_
      refine o_getF X6 hx hZ hown e6 (hw _ (List.mem_of_getElem? (i := 21) rfl)) Via.refl F_o0_length (hb hby d7_36) (pc' := 39) rfl ?_
      intro T7 X7 e7
      refine o_iload_n X7 hx (hb hby d7_39) rfl (pc' := 40) rfl ?_
      refine o_isub X7 hx (hb hby d7_40) (pc' := 41) rfl ?_
      refine o_imul X7 hx (hb hby d7_41) (pc' := 42) rfl ?_
      refine o_iadd X7 hx (hb hby d7_42) (pc' := 43) rfl ?_
      refine o_lushr X7 hx (hb hby d7_43) (pc' := 44) rfl ?_
      refine o_lcmp X7 hx (hb hby d7_44) (pc' := 45) rfl ?_
      by_cases hc8 : (x1 &&& (((1 : Int64) <<< ((u_lane * x3) &&& 0x3f).toInt64) - (1 : Int64))) = ((u_prefix.toUInt64 >>> ((u_entry + (u_lane * (u_length - x3))) &&& 0x3f).toInt64.toUInt64).toInt64)
      · rw [if_pos hc8] at hr
        refine o_ifNo X7 hx (hb hby d7_45) (l_teq hc8).2 (pc' := 48) rfl ?_
        refine o_iload_n X7 hx (hb hby d7_48) rfl (pc' := 49) rfl ?_
        obtain rfl : x3 = r := Option.some.inj hr
        exact o_retI X7 hx hlk hret (hb hby d7_49) ⟨rfl, N, e7⟩ (by decide) (by decide)
      · rw [if_neg hc8] at hr
        refine o_ifYes X7 hx (hb hby d7_45) (l_feq hc8).2 (pc' := 50) (by decide) (by decide) ?_
        refine o_iinc X7 hx (hb hby d7_50) (-1 : Int32) rfl rfl #[.val (.ref o0), .val (.long x1), .second, .val (.int (x3 + (-1 : Int32)))] rfl (pc' := 53) rfl ?_
        refine o_goto X7 hx (hb hby d7_53) (pc' := 7) (by decide) (by decide) ?_
        exact ih u_length u_lane u_prefix u_entry x1 (x3 + (-1 : Int32)) r X7 e7 N Z0 E_o0 F_o0_length F_o0_lane F_o0_prefix F_o0_entry hr
    · rw [if_neg hc2] at hr
      refine o_ifYes X hx (hb hby d7_8) (z_fgt hc2).2 (pc' := 56) (by decide) (by decide) ?_
      refine o_iconst X hx (hb hby d7_56) (0 : Int32) rfl (pc' := 57) rfl ?_
      obtain rfl : (0 : Int32) = r := Option.some.inj hr
      exact o_retI X hx hlk hret (hb hby d7_57) ⟨rfl, N, eT⟩ (by decide) (by decide)
def f7_0 (u_length : Int32) (u_lane : Int32) (u_prefix : Int64) (u_entry : Int32) (x1 : Int64) : Option (Int32) := (f7_7 5 u_length u_lane u_prefix u_entry x1 (u_length - (1 : Int32)))
set_option maxRecDepth 65536 in
set_option maxHeartbeats 40000000 in
theorem b7_0 {p : Program} {l : Launch} {e : Env} {s : State} {m : MethodId} {args : Array Value} {below : List Frame} {meth : Method} {c : Code} {Z : State} {a0 : Array Value} {h0 : Heap} {n0 : Nat} (hx : p.tables.exec = Jvm.exec) (hZ : Z.Warmed39 s.vm) (hw : ∀ d ∈ tables_1, d.before a0 Z = true) (hby : c.code = prog_29_method_12_code) (hml : c.maxLocals = 4) (hown : s.vm.findClass "com/example/once_match/oncematch/PrefixRegister" = some m.cls) (hnm : meth.name = "stateAtEnd") (hret : meth.sig.returnType = some .int) (hlk : meth.locks = false) (o0 : Addr) {T : State} {locs : List Loc} (u_length : Int32) (u_lane : Int32) (u_prefix : Int64) (u_entry : Int32) (x1 : Int64) (r : Int32) (X : Stand p l e ({ frames := 0, cells := 0, slots := 0, locals := 0 } : Room) s m args below meth c T locs 0 0) (eT : T.heap = h0) (N : Fr n0 locs) (Z0 : n0 ≤ h0.size) (E_o0 : Exa Z h0 o0 "com/example/once_match/oncematch/PrefixRegister") (F_o0_length : Fld Z h0 o0 "com/example/once_match/oncematch/PrefixRegister" "length" "I" (.int u_length)) (F_o0_lane : Fld Z h0 o0 "com/example/once_match/oncematch/PrefixRegister" "lane" "I" (.int u_lane)) (F_o0_prefix : Fld Z h0 o0 "com/example/once_match/oncematch/PrefixRegister" "prefix" "J" (.long u_prefix)) (F_o0_entry : Fld Z h0 o0 "com/example/once_match/oncematch/PrefixRegister" "entry" "I" (.int u_entry)) (hr : f7_0 u_length u_lane u_prefix u_entry x1 = some r) :
    OG p e below s (fun v h L => v = (some (.int r)) ∧ Fr n0 L ∧ h = h0) 0 0 T (mkF m 0 #[.val (.ref o0), .val (.long x1), .second, .unset] []) := by
  have hr : (f7_7 5 u_length u_lane u_prefix u_entry x1 (u_length - (1 : Int32))) = some r := hr
  refine o_aload_n X hx (hb hby d7_0) rfl rfl (pc' := 1) rfl ?_
  refine o_getF X hx hZ hown eT (hw _ (List.mem_of_getElem? (i := 21) rfl)) Via.refl F_o0_length (hb hby d7_1) (pc' := 4) rfl ?_
  intro T1 X1 e1
  refine o_iconst X1 hx (hb hby d7_4) (1 : Int32) rfl (pc' := 5) rfl ?_
  refine o_isub X1 hx (hb hby d7_5) (pc' := 6) rfl ?_
  refine o_istore_n X1 hx (hb hby d7_6) #[.val (.ref o0), .val (.long x1), .second, .val (.int (u_length - (1 : Int32)))] rfl (pc' := 7) rfl ?_
  exact b7_7 hx hZ hw hby hml hown hnm hret hlk o0 5 u_length u_lane u_prefix u_entry x1 (u_length - (1 : Int32)) r X1 e1 N Z0 E_o0 F_o0_length F_o0_lane F_o0_prefix F_o0_entry hr
theorem pn_7 : plainName "com/example/once_match/oncematch/PrefixRegister" = true := by first | (simp [plainName, overriddenIn]; done) | decide +kernel
theorem ef_7 (m : MethodId) (o0 : Addr) (x1 : Int64) : entryFrame m #[(.ref o0), (.long x1)] 4 = (mkF m 0 #[.val (.ref o0), .val (.long x1), .second, .unset] []) := by first | (simp [entryFrame, mkF, argsToLocals, Value.category]; done) | rfl
def Qd7 (Z : State) (h0 : Heap) (n0 : Nat) (o0 : Addr) (x1 : Int64) (u_length : Int32) (u_lane : Int32) (u_prefix : Int64) (u_entry : Int32) (r : Int32) : Option Value → Heap → List Loc → Prop := (fun v h L => v = (some (.int r)) ∧ Fr n0 L ∧ h = h0)
set_option maxRecDepth 65536 in
set_option maxHeartbeats 40000000 in
theorem rm7 (l : Launch) (Z : State) (a0 : Array Value) (hw : ∀ d ∈ tables_1, d.before a0 Z = true) (ws : List Jvm.Cond) (o0 : Addr) (x1 : Int64) (u_length : Int32) (u_lane : Int32) (u_prefix : Int64) (u_entry : Int32) (h0 : Heap) (n0 : Nat) (Z0 : n0 ≤ h0.size) (E_o0 : Exa Z h0 o0 "com/example/once_match/oncematch/PrefixRegister") (F_o0_length : Fld Z h0 o0 "com/example/once_match/oncematch/PrefixRegister" "length" "I" (.int u_length)) (F_o0_lane : Fld Z h0 o0 "com/example/once_match/oncematch/PrefixRegister" "lane" "I" (.int u_lane)) (F_o0_prefix : Fld Z h0 o0 "com/example/once_match/oncematch/PrefixRegister" "prefix" "J" (.long u_prefix)) (F_o0_entry : Fld Z h0 o0 "com/example/once_match/oncematch/PrefixRegister" "entry" "I" (.int u_entry)) (r : Int32) (hr : f7_0 u_length u_lane u_prefix u_entry x1 = some r) :
    MetFree l (⟨"com/example/once_match/oncematch/PrefixRegister", "stateAtEnd", "(J)I"⟩ : MethodName) (head1 (Jvm.Cond.code (⟨"com/example/once_match/oncematch/PrefixRegister", "stateAtEnd", "(J)I"⟩ : MethodName) prog_29_method_12_code 4 (some .int) :: ws) ({ frames := 0, cells := 0, slots := 0, locals := 0 } : Room)) (fun a U => a = #[(.ref o0), (.long x1)] ∧ Z.Warmed39 U.vm ∧ U.heap = h0) (fun _ _ _ _ _ => True) (fun _ U o U' => ∃ v L, o = .returned v ∧ (Qd7 Z h0 n0 o0 x1 u_length u_lane u_prefix u_entry r) v U'.heap L ∧ FrameEnd U o U' L ({ frames := 0, cells := 0, slots := 0, locals := 0 } : Room).cells ({ frames := 0, cells := 0, slots := 0, locals := 0 } : Room).slots) := by
  refine MetFree.of_bodySF (plainFor_of_name pn_7) hisR ?_
  intro p e s m args below meth c s₁ Bd hml0 hP hK
  obtain ⟨rfl, hZ, hh⟩ := hP
  have e0 : s₁.heap = h0 := by rw [← hh, Bd.state]; rfl
  exact OG.cast (ef_7 m o0 x1) (b7_0 Bd.exec hZ hw Bd.bytes hml0 (findClass_of_methodNamed Bd.named) (name_of_methodNamed Bd.named Bd.method).1 Bd.returns Bd.notSynchronized o0 u_length u_lane u_prefix u_entry x1 r (Stand.of_body Bd) e0 (Fr.nil n0) Z0 E_o0 F_o0_length F_o0_lane F_o0_prefix F_o0_entry hr)
theorem pd_3 : parseMethodDescriptor "(IIIII)I" = some ⟨[.int, .int, .int, .int, .int], some .int⟩ := by decide +kernel
theorem pd_4 : parseMethodDescriptor "([C)V" = some ⟨[(.array .char)], none⟩ := by decide +kernel
theorem pd_5 : parseMethodDescriptor "(J)I" = some ⟨[.long], some .int⟩ := by decide +kernel
def f0_443 (c_a4 : (Nat → Int32)) (x20 : Int64) (x23 : Int32) : Option (Int32) := (Option.bind (f2_0 c_a4 1) (fun v17 => (Option.bind (f7_0 v17.2.1 v17.1 v17.2.2.2.2.1 v17.2.2.1 x20) (fun v18 => (if v18 = x23 then (some (1 : Int32)) else (some (0 : Int32)))))))
set_option maxRecDepth 65536 in
set_option maxHeartbeats 40000000 in
theorem b0_443 {p : Program} {l : Launch} {e : Env} {s : State} {m : MethodId} {args : Array Value} {below : List Frame} {meth : Method} {c : Code} {Z : State} {a0 : Array Value} {n0 : Nat} (hx : p.tables.exec = Jvm.exec) (hZ : Z.Warmed39 s.vm) (hw : ∀ d ∈ tables_1, d.before a0 Z = true) (hby : c.code = code) (hml : c.maxLocals = 25) (hown : s.vm.findClass "com/example/once_match/oncematch/PrefixRegisterStateAtEndPinLaw" = some m.cls) (hnm : meth.name = "law") (hret : meth.sig.returnType = some .boolean) (hlk : meth.locks = false)  {T : State} {locs : List Loc} {h : Heap} (a4 : Addr) (c_a4 : Nat → Int32) (d0 : Int32) (d1 : Int32) (d2 : Int32) (d3 : Int64) (d5 : Int32) (d6 : Int32) (d7 : Int32) (d8 : Int32) (d9 : Int32) (d10 : Int32) (d11 : Int32) (d12 : Int32) (d14 : Int32) (d15 : Int32) (d16 : Int32) (d17 : Int32) (d18 : Int32) (d19 : Int32) (x20 : Int64) (d22 : Int32) (x23 : Int32) (r : Int32) (X : Stand p l e room_1 s m args below meth c T locs 1 1) (eT : T.heap = h) (N : Fr n0 locs) (hsz : n0 ≤ h.size) (A_a4 : OAr Z h a4 .char 1 (ci c_a4)) (g_a4 : n0 ≤ a4) (hr : f0_443 c_a4 x20 x23 = some r) :
    OG p e below s (fun v h L => v = (some (.int r)) ∧ Fr n0 L) 16 128 T (mkF m 443 #[.val (.int d0), .val (.int d1), .val (.int d2), .val (.long d3), .second, .val (.int d5), .val (.int d6), .val (.int d7), .val (.int d8), .val (.int d9), .val (.int d10), .val (.int d11), .val (.int d12), .val (.ref a4), .val (.int d14), .val (.int d15), .val (.int d16), .val (.int d17), .val (.int d18), .val (.int d19), .val (.long x20), .second, .val (.int d22), .val (.int x23), .unset] []) := by
  have hr : (Option.bind (f2_0 c_a4 1) (fun v17 => (Option.bind (f7_0 v17.2.1 v17.1 v17.2.2.2.2.1 v17.2.2.1 x20) (fun v18 => (if v18 = x23 then (some (1 : Int32)) else (some (0 : Int32))))))) = some r := hr
  refine o_new X hx hZ hown eT (hw _ (List.mem_of_getElem? (i := 6) rfl)) (hw _ (List.mem_of_getElem? (i := 7) rfl)) (hw _ (List.mem_of_getElem? (i := 8) rfl)) (hb hby at_443) (pc' := 446) rfl (by decide) (by decide) ?_
  intro T16 h16 a16 X16 e16 q16 E16 A16 D16
  have g16 : n0 ≤ a16 := Nat.le_trans hsz (Nat.le_of_eq q16.symm)
  have ne_a4_a16 : a4 ≠ a16 := by rw [q16]; exact Nat.ne_of_lt (A_a4.lt)
  have A16_a4 := OAr.ext E16 A_a4
  have z16 : n0 ≤ h16.size := Nat.le_trans hsz E16.1
  have F16_lane : Fld Z h16 a16 "com/example/once_match/oncematch/PrefixRegister" "lane" "I" (.int (0 : Int32)) := D16 (Or.inr (hw _ (List.mem_of_getElem? (i := 20) rfl))) (ty := .int) (by decide)
  have F16_length : Fld Z h16 a16 "com/example/once_match/oncematch/PrefixRegister" "length" "I" (.int (0 : Int32)) := D16 (Or.inr (hw _ (List.mem_of_getElem? (i := 22) rfl))) (ty := .int) (by decide)
  have F16_entry : Fld Z h16 a16 "com/example/once_match/oncematch/PrefixRegister" "entry" "I" (.int (0 : Int32)) := D16 (Or.inr (hw _ (List.mem_of_getElem? (i := 24) rfl))) (ty := .int) (by decide)
  have F16_filler : Fld Z h16 a16 "com/example/once_match/oncematch/PrefixRegister" "filler" "I" (.int (0 : Int32)) := D16 (Or.inr (hw _ (List.mem_of_getElem? (i := 30) rfl))) (ty := .int) (by decide)
  have F16_prefix : Fld Z h16 a16 "com/example/once_match/oncematch/PrefixRegister" "prefix" "J" (.long (0 : Int64)) := D16 (Or.inr (hw _ (List.mem_of_getElem? (i := 36) rfl))) (ty := .long) (by decide)
  have F16_lasts : Fld Z h16 a16 "com/example/once_match/oncematch/PrefixRegister" "lasts" "J" (.long (0 : Int64)) := D16 (Or.inr (hw _ (List.mem_of_getElem? (i := 39) rfl))) (ty := .long) (by decide)
  have F16_before : Fld Z h16 a16 "com/example/once_match/oncematch/PrefixRegister" "before" "[J" .null := D16 (Or.inr (hw _ (List.mem_of_getElem? (i := 42) rfl))) (ty := (.array .long)) (by decide)
  refine o_dup X16 hx (hb hby at_446) rfl (pc' := 447) rfl ?_
  refine o_aload X16 hx (hb hby at_447) rfl rfl (pc' := 449) rfl ?_
  rcases hq17 : f2_0 c_a4 1 with _ | v17
  · rw [hq17] at hr; cases hr
  rw [hq17] at hr
  dsimp only [Option.bind] at hr
  refine o_special X16 hx hZ (argsL := [(.ref a4)]) (rest := [(.ref a16)]) (a := a16) 1 rfl hown e16 (hw _ (List.mem_of_getElem? (i := 9) rfl)) (hw _ (List.mem_of_getElem? (i := 10) rfl)) (hw _ (List.mem_of_getElem? (i := 8) rfl)) (hw _ (List.mem_of_getElem? (i := 11) rfl)) (by decide) (rm2 l Z a0 hw [] a16 a4 (.int (0 : Int32)) (.int (0 : Int32)) (.int (0 : Int32)) (.int (0 : Int32)) (.long (0 : Int64)) (.long (0 : Int64)) .null c_a4 1 h16 n0 z16 A16 F16_lane F16_length F16_entry F16_filler F16_prefix F16_lasts F16_before g16 A16_a4 g_a4 (Ne.symm ne_a4_a16) v17 hq17) (by decide) (by decide) (by rw [hml]; rfl) (lenOf pd_4 rfl) rfl (Nat.le_refl _) (hb hby at_449) (pc' := 452) rfl (by decide) (by decide) ?_
  rintro _ T17 L17 X17 ⟨rfl, N17, K17, B17, F17_lane, F17_length, F17_entry, F17_filler, F17_prefix, F17_lasts⟩
  replace X17 : Stand p l e room_1 s m args below meth c T17 (locs ++ L17) 3 12 := X17
  have M17 := Fr.app N N17
  dsimp only [Option.toList, List.cons_append, List.nil_append]
  have A17_a4 := OAr.keep A16_a4 K17 (by simp [ne_a4_a16])
  have A17_a16 := Exa.keep A16 K17
  have z17 : n0 ≤ T17.heap.size := Nat.le_trans z16 K17.1
  refine o_astore X17 hx (hb hby at_452) rfl #[.val (.int d0), .val (.int d1), .val (.int d2), .val (.long d3), .second, .val (.int d5), .val (.int d6), .val (.int d7), .val (.int d8), .val (.int d9), .val (.int d10), .val (.int d11), .val (.int d12), .val (.ref a4), .val (.int d14), .val (.int d15), .val (.int d16), .val (.int d17), .val (.int d18), .val (.int d19), .val (.long x20), .second, .val (.int d22), .val (.int x23), .val (.ref a16)] rfl (pc' := 454) rfl ?_
  refine o_aload X17 hx (hb hby at_454) rfl rfl (pc' := 456) rfl ?_
  refine o_lload X17 hx (hb hby at_456) rfl (pc' := 458) rfl ?_
  rcases hq18 : f7_0 v17.2.1 v17.1 v17.2.2.2.2.1 v17.2.2.1 x20 with _ | v18
  · rw [hq18] at hr; cases hr
  rw [hq18] at hr
  dsimp only [Option.bind] at hr
  refine o_virtual X17 hx hZ (argsL := [(.long x20)]) (rest := []) (a := a16) 0 hown (rfl : T17.heap = T17.heap) (hw _ (List.mem_of_getElem? (i := 43) rfl)) (hw _ (List.mem_of_getElem? (i := 44) rfl)) (hw _ (List.mem_of_getElem? (i := 46) rfl)) (hw _ (List.mem_of_getElem? (i := 45) rfl)) (hw _ (List.mem_of_getElem? (i := 8) rfl)) (hw _ (List.mem_of_getElem? (i := 47) rfl)) (by decide) B17 (rm7 l Z a0 hw [] a16 x20 v17.2.1 v17.1 v17.2.2.2.2.1 v17.2.2.1 T17.heap n0 z17 B17 F17_length F17_lane F17_prefix F17_entry v18 hq18) (by decide) (by decide) (by rw [hml]; rfl) (lenOf pd_5 rfl) rfl (Nat.le_refl _) (hb hby at_458) (pc' := 461) rfl (by decide) (by decide) ?_
  rintro _ T18 L18 X18 ⟨rfl, N18, e18⟩
  replace X18 : Stand p l e room_1 s m args below meth c T18 ((locs ++ L17) ++ L18) 3 12 := X18
  have M18 := Fr.app M17 N18
  dsimp only [Option.toList, List.cons_append, List.nil_append]
  refine o_iload X18 hx (hb hby at_461) rfl (pc' := 463) rfl ?_
  by_cases hc19 : v18 = x23
  · rw [if_pos hc19] at hr
    refine o_icmpNo X18 hx (hb hby at_463) (c_teq hc19).2 (pc' := 466) rfl ?_
    refine o_iconst X18 hx (hb hby at_466) (1 : Int32) rfl (pc' := 467) rfl ?_
    refine o_goto X18 hx (hb hby at_467) (pc' := 471) (by decide) (by decide) ?_
    obtain rfl : (1 : Int32) = r := Option.some.inj hr
    exact o_retN X18 hx hlk (t := .boolean) (by simp) hret (hb hby at_471) rfl ⟨rfl, M18⟩ (by decide) (by decide)
  · rw [if_neg hc19] at hr
    refine o_icmpYes X18 hx (hb hby at_463) (c_feq hc19).2 (pc' := 470) (by decide) (by decide) ?_
    refine o_iconst X18 hx (hb hby at_470) (0 : Int32) rfl (pc' := 471) rfl ?_
    obtain rfl : (0 : Int32) = r := Option.some.inj hr
    exact o_retN X18 hx hlk (t := .boolean) (by simp) hret (hb hby at_471) rfl ⟨rfl, M18⟩ (by decide) (by decide)
def f0_440 (c_a4 : (Nat → Int32)) (x20 : Int64) : Option (Int32) := (f0_443 c_a4 x20 (0 : Int32))
set_option maxRecDepth 65536 in
set_option maxHeartbeats 40000000 in
theorem b0_440 {p : Program} {l : Launch} {e : Env} {s : State} {m : MethodId} {args : Array Value} {below : List Frame} {meth : Method} {c : Code} {Z : State} {a0 : Array Value} {n0 : Nat} (hx : p.tables.exec = Jvm.exec) (hZ : Z.Warmed39 s.vm) (hw : ∀ d ∈ tables_1, d.before a0 Z = true) (hby : c.code = code) (hml : c.maxLocals = 25) (hown : s.vm.findClass "com/example/once_match/oncematch/PrefixRegisterStateAtEndPinLaw" = some m.cls) (hnm : meth.name = "law") (hret : meth.sig.returnType = some .boolean) (hlk : meth.locks = false)  {T : State} {locs : List Loc} {h : Heap} (a4 : Addr) (c_a4 : Nat → Int32) (d0 : Int32) (d1 : Int32) (d2 : Int32) (d3 : Int64) (d5 : Int32) (d6 : Int32) (d7 : Int32) (d8 : Int32) (d9 : Int32) (d10 : Int32) (d11 : Int32) (d12 : Int32) (d14 : Int32) (d15 : Int32) (d16 : Int32) (d17 : Int32) (d18 : Int32) (d19 : Int32) (x20 : Int64) (d22 : Int32) (r : Int32) (X : Stand p l e room_1 s m args below meth c T locs 1 1) (eT : T.heap = h) (N : Fr n0 locs) (hsz : n0 ≤ h.size) (A_a4 : OAr Z h a4 .char 1 (ci c_a4)) (g_a4 : n0 ≤ a4) (hr : f0_440 c_a4 x20 = some r) :
    OG p e below s (fun v h L => v = (some (.int r)) ∧ Fr n0 L) 16 128 T (mkF m 440 #[.val (.int d0), .val (.int d1), .val (.int d2), .val (.long d3), .second, .val (.int d5), .val (.int d6), .val (.int d7), .val (.int d8), .val (.int d9), .val (.int d10), .val (.int d11), .val (.int d12), .val (.ref a4), .val (.int d14), .val (.int d15), .val (.int d16), .val (.int d17), .val (.int d18), .val (.int d19), .val (.long x20), .second, .val (.int d22), .unset, .unset] []) := by
  have hr : (f0_443 c_a4 x20 (0 : Int32)) = some r := hr
  refine o_iconst X hx (hb hby at_440) (0 : Int32) rfl (pc' := 441) rfl ?_
  refine o_istore X hx (hb hby at_441) #[.val (.int d0), .val (.int d1), .val (.int d2), .val (.long d3), .second, .val (.int d5), .val (.int d6), .val (.int d7), .val (.int d8), .val (.int d9), .val (.int d10), .val (.int d11), .val (.int d12), .val (.ref a4), .val (.int d14), .val (.int d15), .val (.int d16), .val (.int d17), .val (.int d18), .val (.int d19), .val (.long x20), .second, .val (.int d22), .val (.int (0 : Int32)), .unset] rfl (pc' := 443) rfl ?_
  exact b0_443 hx hZ hw hby hml hown hnm hret hlk a4 c_a4 d0 d1 d2 d3 d5 d6 d7 d8 d9 d10 d11 d12 d14 d15 d16 d17 d18 d19 x20 d22 (0 : Int32) r X eT N hsz A_a4 g_a4 hr
def f0_421 (c_a4 : (Nat → Int32)) (x9 : Int32) (x17 : Int32) (x20 : Int64) (x22 : Int32) : Option (Int32) := (if (1 : Int32) < x22 then (if x17 = x9 then (f0_443 c_a4 x20 (1 : Int32)) else (f0_440 c_a4 x20)) else (f0_440 c_a4 x20))
set_option maxRecDepth 65536 in
set_option maxHeartbeats 40000000 in
theorem b0_421 {p : Program} {l : Launch} {e : Env} {s : State} {m : MethodId} {args : Array Value} {below : List Frame} {meth : Method} {c : Code} {Z : State} {a0 : Array Value} {n0 : Nat} (hx : p.tables.exec = Jvm.exec) (hZ : Z.Warmed39 s.vm) (hw : ∀ d ∈ tables_1, d.before a0 Z = true) (hby : c.code = code) (hml : c.maxLocals = 25) (hown : s.vm.findClass "com/example/once_match/oncematch/PrefixRegisterStateAtEndPinLaw" = some m.cls) (hnm : meth.name = "law") (hret : meth.sig.returnType = some .boolean) (hlk : meth.locks = false)  {T : State} {locs : List Loc} {h : Heap} (a4 : Addr) (c_a4 : Nat → Int32) (d0 : Int32) (d1 : Int32) (d2 : Int32) (d3 : Int64) (d5 : Int32) (d6 : Int32) (d7 : Int32) (d8 : Int32) (x9 : Int32) (d10 : Int32) (d11 : Int32) (d12 : Int32) (d14 : Int32) (d15 : Int32) (d16 : Int32) (x17 : Int32) (d18 : Int32) (d19 : Int32) (x20 : Int64) (x22 : Int32) (r : Int32) (X : Stand p l e room_1 s m args below meth c T locs 1 1) (eT : T.heap = h) (N : Fr n0 locs) (hsz : n0 ≤ h.size) (A_a4 : OAr Z h a4 .char 1 (ci c_a4)) (g_a4 : n0 ≤ a4) (hr : f0_421 c_a4 x9 x17 x20 x22 = some r) :
    OG p e below s (fun v h L => v = (some (.int r)) ∧ Fr n0 L) 16 128 T (mkF m 421 #[.val (.int d0), .val (.int d1), .val (.int d2), .val (.long d3), .second, .val (.int d5), .val (.int d6), .val (.int d7), .val (.int d8), .val (.int x9), .val (.int d10), .val (.int d11), .val (.int d12), .val (.ref a4), .val (.int d14), .val (.int d15), .val (.int d16), .val (.int x17), .val (.int d18), .val (.int d19), .val (.long x20), .second, .val (.int x22), .unset, .unset] []) := by
  have hr : (if (1 : Int32) < x22 then (if x17 = x9 then (f0_443 c_a4 x20 (1 : Int32)) else (f0_440 c_a4 x20)) else (f0_440 c_a4 x20)) = some r := hr
  refine o_iload X hx (hb hby at_421) rfl (pc' := 423) rfl ?_
  refine o_iconst X hx (hb hby at_423) (1 : Int32) rfl (pc' := 424) rfl ?_
  by_cases hc23 : (1 : Int32) < x22
  · rw [if_pos hc23] at hr
    refine o_icmpNo X hx (hb hby at_424) (c_tgt hc23).2 (pc' := 427) rfl ?_
    refine o_iload X hx (hb hby at_427) rfl (pc' := 429) rfl ?_
    refine o_iload X hx (hb hby at_429) rfl (pc' := 431) rfl ?_
    by_cases hc24 : x17 = x9
    · rw [if_pos hc24] at hr
      refine o_icmpNo X hx (hb hby at_431) (c_teq hc24).2 (pc' := 434) rfl ?_
      refine o_iconst X hx (hb hby at_434) (1 : Int32) rfl (pc' := 435) rfl ?_
      refine o_istore X hx (hb hby at_435) #[.val (.int d0), .val (.int d1), .val (.int d2), .val (.long d3), .second, .val (.int d5), .val (.int d6), .val (.int d7), .val (.int d8), .val (.int x9), .val (.int d10), .val (.int d11), .val (.int d12), .val (.ref a4), .val (.int d14), .val (.int d15), .val (.int d16), .val (.int x17), .val (.int d18), .val (.int d19), .val (.long x20), .second, .val (.int x22), .val (.int (1 : Int32)), .unset] rfl (pc' := 437) rfl ?_
      refine o_goto X hx (hb hby at_437) (pc' := 443) (by decide) (by decide) ?_
      exact b0_443 hx hZ hw hby hml hown hnm hret hlk a4 c_a4 d0 d1 d2 d3 d5 d6 d7 d8 x9 d10 d11 d12 d14 d15 d16 x17 d18 d19 x20 x22 (1 : Int32) r X eT N hsz A_a4 g_a4 hr
    · rw [if_neg hc24] at hr
      refine o_icmpYes X hx (hb hby at_431) (c_feq hc24).2 (pc' := 440) (by decide) (by decide) ?_
      exact b0_440 hx hZ hw hby hml hown hnm hret hlk a4 c_a4 d0 d1 d2 d3 d5 d6 d7 d8 x9 d10 d11 d12 d14 d15 d16 x17 d18 d19 x20 x22 r X eT N hsz A_a4 g_a4 hr
  · rw [if_neg hc23] at hr
    refine o_icmpYes X hx (hb hby at_424) (c_fgt hc23).2 (pc' := 440) (by decide) (by decide) ?_
    exact b0_440 hx hZ hw hby hml hown hnm hret hlk a4 c_a4 d0 d1 d2 d3 d5 d6 d7 d8 x9 d10 d11 d12 d14 d15 d16 x17 d18 d19 x20 x22 r X eT N hsz A_a4 g_a4 hr
def f0_395 (c_a4 : (Nat → Int32)) (x9 : Int32) (x10 : Int32) (x17 : Int32) (x18 : Int32) (x20 : Int64) (x22 : Int32) : Option (Int32) := (if (2 : Int32) < x22 then (if x18 = x9 then (if x17 = x10 then (f0_443 c_a4 x20 (2 : Int32)) else (f0_421 c_a4 x9 x17 x20 x22)) else (f0_421 c_a4 x9 x17 x20 x22)) else (f0_421 c_a4 x9 x17 x20 x22))
set_option maxRecDepth 65536 in
set_option maxHeartbeats 40000000 in
theorem b0_395 {p : Program} {l : Launch} {e : Env} {s : State} {m : MethodId} {args : Array Value} {below : List Frame} {meth : Method} {c : Code} {Z : State} {a0 : Array Value} {n0 : Nat} (hx : p.tables.exec = Jvm.exec) (hZ : Z.Warmed39 s.vm) (hw : ∀ d ∈ tables_1, d.before a0 Z = true) (hby : c.code = code) (hml : c.maxLocals = 25) (hown : s.vm.findClass "com/example/once_match/oncematch/PrefixRegisterStateAtEndPinLaw" = some m.cls) (hnm : meth.name = "law") (hret : meth.sig.returnType = some .boolean) (hlk : meth.locks = false)  {T : State} {locs : List Loc} {h : Heap} (a4 : Addr) (c_a4 : Nat → Int32) (d0 : Int32) (d1 : Int32) (d2 : Int32) (d3 : Int64) (d5 : Int32) (d6 : Int32) (d7 : Int32) (d8 : Int32) (x9 : Int32) (x10 : Int32) (d11 : Int32) (d12 : Int32) (d14 : Int32) (d15 : Int32) (d16 : Int32) (x17 : Int32) (x18 : Int32) (d19 : Int32) (x20 : Int64) (x22 : Int32) (r : Int32) (X : Stand p l e room_1 s m args below meth c T locs 1 1) (eT : T.heap = h) (N : Fr n0 locs) (hsz : n0 ≤ h.size) (A_a4 : OAr Z h a4 .char 1 (ci c_a4)) (g_a4 : n0 ≤ a4) (hr : f0_395 c_a4 x9 x10 x17 x18 x20 x22 = some r) :
    OG p e below s (fun v h L => v = (some (.int r)) ∧ Fr n0 L) 16 128 T (mkF m 395 #[.val (.int d0), .val (.int d1), .val (.int d2), .val (.long d3), .second, .val (.int d5), .val (.int d6), .val (.int d7), .val (.int d8), .val (.int x9), .val (.int x10), .val (.int d11), .val (.int d12), .val (.ref a4), .val (.int d14), .val (.int d15), .val (.int d16), .val (.int x17), .val (.int x18), .val (.int d19), .val (.long x20), .second, .val (.int x22), .unset, .unset] []) := by
  have hr : (if (2 : Int32) < x22 then (if x18 = x9 then (if x17 = x10 then (f0_443 c_a4 x20 (2 : Int32)) else (f0_421 c_a4 x9 x17 x20 x22)) else (f0_421 c_a4 x9 x17 x20 x22)) else (f0_421 c_a4 x9 x17 x20 x22)) = some r := hr
  refine o_iload X hx (hb hby at_395) rfl (pc' := 397) rfl ?_
  refine o_iconst X hx (hb hby at_397) (2 : Int32) rfl (pc' := 398) rfl ?_
  by_cases hc20 : (2 : Int32) < x22
  · rw [if_pos hc20] at hr
    refine o_icmpNo X hx (hb hby at_398) (c_tgt hc20).2 (pc' := 401) rfl ?_
    refine o_iload X hx (hb hby at_401) rfl (pc' := 403) rfl ?_
    refine o_iload X hx (hb hby at_403) rfl (pc' := 405) rfl ?_
    by_cases hc21 : x18 = x9
    · rw [if_pos hc21] at hr
      refine o_icmpNo X hx (hb hby at_405) (c_teq hc21).2 (pc' := 408) rfl ?_
      refine o_iload X hx (hb hby at_408) rfl (pc' := 410) rfl ?_
      refine o_iload X hx (hb hby at_410) rfl (pc' := 412) rfl ?_
      by_cases hc22 : x17 = x10
      · rw [if_pos hc22] at hr
        refine o_icmpNo X hx (hb hby at_412) (c_teq hc22).2 (pc' := 415) rfl ?_
        refine o_iconst X hx (hb hby at_415) (2 : Int32) rfl (pc' := 416) rfl ?_
        refine o_istore X hx (hb hby at_416) #[.val (.int d0), .val (.int d1), .val (.int d2), .val (.long d3), .second, .val (.int d5), .val (.int d6), .val (.int d7), .val (.int d8), .val (.int x9), .val (.int x10), .val (.int d11), .val (.int d12), .val (.ref a4), .val (.int d14), .val (.int d15), .val (.int d16), .val (.int x17), .val (.int x18), .val (.int d19), .val (.long x20), .second, .val (.int x22), .val (.int (2 : Int32)), .unset] rfl (pc' := 418) rfl ?_
        refine o_goto X hx (hb hby at_418) (pc' := 443) (by decide) (by decide) ?_
        exact b0_443 hx hZ hw hby hml hown hnm hret hlk a4 c_a4 d0 d1 d2 d3 d5 d6 d7 d8 x9 x10 d11 d12 d14 d15 d16 x17 x18 d19 x20 x22 (2 : Int32) r X eT N hsz A_a4 g_a4 hr
      · rw [if_neg hc22] at hr
        refine o_icmpYes X hx (hb hby at_412) (c_feq hc22).2 (pc' := 421) (by decide) (by decide) ?_
        exact b0_421 hx hZ hw hby hml hown hnm hret hlk a4 c_a4 d0 d1 d2 d3 d5 d6 d7 d8 x9 x10 d11 d12 d14 d15 d16 x17 x18 d19 x20 x22 r X eT N hsz A_a4 g_a4 hr
    · rw [if_neg hc21] at hr
      refine o_icmpYes X hx (hb hby at_405) (c_feq hc21).2 (pc' := 421) (by decide) (by decide) ?_
      exact b0_421 hx hZ hw hby hml hown hnm hret hlk a4 c_a4 d0 d1 d2 d3 d5 d6 d7 d8 x9 x10 d11 d12 d14 d15 d16 x17 x18 d19 x20 x22 r X eT N hsz A_a4 g_a4 hr
  · rw [if_neg hc20] at hr
    refine o_icmpYes X hx (hb hby at_398) (c_fgt hc20).2 (pc' := 421) (by decide) (by decide) ?_
    exact b0_421 hx hZ hw hby hml hown hnm hret hlk a4 c_a4 d0 d1 d2 d3 d5 d6 d7 d8 x9 x10 d11 d12 d14 d15 d16 x17 x18 d19 x20 x22 r X eT N hsz A_a4 g_a4 hr
def f0_358 (c_a4 : (Nat → Int32)) (x7 : Int32) (x9 : Int32) (x10 : Int32) (x11 : Int32) (x17 : Int32) (x18 : Int32) (x19 : Int32) (x20 : Int64) : Option (Int32) := (if (3 : Int32) < x7 then (if x19 = x9 then (if x18 = x10 then (if x17 = x11 then (f0_443 c_a4 x20 (3 : Int32)) else (f0_395 c_a4 x9 x10 x17 x18 x20 x7)) else (f0_395 c_a4 x9 x10 x17 x18 x20 x7)) else (f0_395 c_a4 x9 x10 x17 x18 x20 x7)) else (f0_395 c_a4 x9 x10 x17 x18 x20 x7))
set_option maxRecDepth 65536 in
set_option maxHeartbeats 40000000 in
theorem b0_358 {p : Program} {l : Launch} {e : Env} {s : State} {m : MethodId} {args : Array Value} {below : List Frame} {meth : Method} {c : Code} {Z : State} {a0 : Array Value} {n0 : Nat} (hx : p.tables.exec = Jvm.exec) (hZ : Z.Warmed39 s.vm) (hw : ∀ d ∈ tables_1, d.before a0 Z = true) (hby : c.code = code) (hml : c.maxLocals = 25) (hown : s.vm.findClass "com/example/once_match/oncematch/PrefixRegisterStateAtEndPinLaw" = some m.cls) (hnm : meth.name = "law") (hret : meth.sig.returnType = some .boolean) (hlk : meth.locks = false)  {T : State} {locs : List Loc} {h : Heap} (a4 : Addr) (c_a4 : Nat → Int32) (d0 : Int32) (d1 : Int32) (d2 : Int32) (d3 : Int64) (d5 : Int32) (d6 : Int32) (x7 : Int32) (d8 : Int32) (x9 : Int32) (x10 : Int32) (x11 : Int32) (d12 : Int32) (d14 : Int32) (d15 : Int32) (d16 : Int32) (x17 : Int32) (x18 : Int32) (x19 : Int32) (x20 : Int64) (r : Int32) (X : Stand p l e room_1 s m args below meth c T locs 1 1) (eT : T.heap = h) (N : Fr n0 locs) (hsz : n0 ≤ h.size) (A_a4 : OAr Z h a4 .char 1 (ci c_a4)) (g_a4 : n0 ≤ a4) (hr : f0_358 c_a4 x7 x9 x10 x11 x17 x18 x19 x20 = some r) :
    OG p e below s (fun v h L => v = (some (.int r)) ∧ Fr n0 L) 16 128 T (mkF m 358 #[.val (.int d0), .val (.int d1), .val (.int d2), .val (.long d3), .second, .val (.int d5), .val (.int d6), .val (.int x7), .val (.int d8), .val (.int x9), .val (.int x10), .val (.int x11), .val (.int d12), .val (.ref a4), .val (.int d14), .val (.int d15), .val (.int d16), .val (.int x17), .val (.int x18), .val (.int x19), .val (.long x20), .second, .unset, .unset, .unset] []) := by
  have hr : (if (3 : Int32) < x7 then (if x19 = x9 then (if x18 = x10 then (if x17 = x11 then (f0_443 c_a4 x20 (3 : Int32)) else (f0_395 c_a4 x9 x10 x17 x18 x20 x7)) else (f0_395 c_a4 x9 x10 x17 x18 x20 x7)) else (f0_395 c_a4 x9 x10 x17 x18 x20 x7)) else (f0_395 c_a4 x9 x10 x17 x18 x20 x7)) = some r := hr
  refine o_iload X hx (hb hby at_358) rfl (pc' := 360) rfl ?_
  refine o_istore X hx (hb hby at_360) #[.val (.int d0), .val (.int d1), .val (.int d2), .val (.long d3), .second, .val (.int d5), .val (.int d6), .val (.int x7), .val (.int d8), .val (.int x9), .val (.int x10), .val (.int x11), .val (.int d12), .val (.ref a4), .val (.int d14), .val (.int d15), .val (.int d16), .val (.int x17), .val (.int x18), .val (.int x19), .val (.long x20), .second, .val (.int x7), .unset, .unset] rfl (pc' := 362) rfl ?_
  refine o_iload X hx (hb hby at_362) rfl (pc' := 364) rfl ?_
  refine o_iconst X hx (hb hby at_364) (3 : Int32) rfl (pc' := 365) rfl ?_
  by_cases hc12 : (3 : Int32) < x7
  · rw [if_pos hc12] at hr
    refine o_icmpNo X hx (hb hby at_365) (c_tgt hc12).2 (pc' := 368) rfl ?_
    refine o_iload X hx (hb hby at_368) rfl (pc' := 370) rfl ?_
    refine o_iload X hx (hb hby at_370) rfl (pc' := 372) rfl ?_
    by_cases hc13 : x19 = x9
    · rw [if_pos hc13] at hr
      refine o_icmpNo X hx (hb hby at_372) (c_teq hc13).2 (pc' := 375) rfl ?_
      refine o_iload X hx (hb hby at_375) rfl (pc' := 377) rfl ?_
      refine o_iload X hx (hb hby at_377) rfl (pc' := 379) rfl ?_
      by_cases hc14 : x18 = x10
      · rw [if_pos hc14] at hr
        refine o_icmpNo X hx (hb hby at_379) (c_teq hc14).2 (pc' := 382) rfl ?_
        refine o_iload X hx (hb hby at_382) rfl (pc' := 384) rfl ?_
        refine o_iload X hx (hb hby at_384) rfl (pc' := 386) rfl ?_
        by_cases hc15 : x17 = x11
        · rw [if_pos hc15] at hr
          refine o_icmpNo X hx (hb hby at_386) (c_teq hc15).2 (pc' := 389) rfl ?_
          refine o_iconst X hx (hb hby at_389) (3 : Int32) rfl (pc' := 390) rfl ?_
          refine o_istore X hx (hb hby at_390) #[.val (.int d0), .val (.int d1), .val (.int d2), .val (.long d3), .second, .val (.int d5), .val (.int d6), .val (.int x7), .val (.int d8), .val (.int x9), .val (.int x10), .val (.int x11), .val (.int d12), .val (.ref a4), .val (.int d14), .val (.int d15), .val (.int d16), .val (.int x17), .val (.int x18), .val (.int x19), .val (.long x20), .second, .val (.int x7), .val (.int (3 : Int32)), .unset] rfl (pc' := 392) rfl ?_
          refine o_goto X hx (hb hby at_392) (pc' := 443) (by decide) (by decide) ?_
          exact b0_443 hx hZ hw hby hml hown hnm hret hlk a4 c_a4 d0 d1 d2 d3 d5 d6 x7 d8 x9 x10 x11 d12 d14 d15 d16 x17 x18 x19 x20 x7 (3 : Int32) r X eT N hsz A_a4 g_a4 hr
        · rw [if_neg hc15] at hr
          refine o_icmpYes X hx (hb hby at_386) (c_feq hc15).2 (pc' := 395) (by decide) (by decide) ?_
          exact b0_395 hx hZ hw hby hml hown hnm hret hlk a4 c_a4 d0 d1 d2 d3 d5 d6 x7 d8 x9 x10 x11 d12 d14 d15 d16 x17 x18 x19 x20 x7 r X eT N hsz A_a4 g_a4 hr
      · rw [if_neg hc14] at hr
        refine o_icmpYes X hx (hb hby at_379) (c_feq hc14).2 (pc' := 395) (by decide) (by decide) ?_
        exact b0_395 hx hZ hw hby hml hown hnm hret hlk a4 c_a4 d0 d1 d2 d3 d5 d6 x7 d8 x9 x10 x11 d12 d14 d15 d16 x17 x18 x19 x20 x7 r X eT N hsz A_a4 g_a4 hr
    · rw [if_neg hc13] at hr
      refine o_icmpYes X hx (hb hby at_372) (c_feq hc13).2 (pc' := 395) (by decide) (by decide) ?_
      exact b0_395 hx hZ hw hby hml hown hnm hret hlk a4 c_a4 d0 d1 d2 d3 d5 d6 x7 d8 x9 x10 x11 d12 d14 d15 d16 x17 x18 x19 x20 x7 r X eT N hsz A_a4 g_a4 hr
  · rw [if_neg hc12] at hr
    refine o_icmpYes X hx (hb hby at_365) (c_fgt hc12).2 (pc' := 395) (by decide) (by decide) ?_
    exact b0_395 hx hZ hw hby hml hown hnm hret hlk a4 c_a4 d0 d1 d2 d3 d5 d6 x7 d8 x9 x10 x11 d12 d14 d15 d16 x17 x18 x19 x20 x7 r X eT N hsz A_a4 g_a4 hr
def f0_330 (c_a4 : (Nat → Int32)) (x3 : Int64) (x7 : Int32) (x9 : Int32) (x10 : Int32) (x11 : Int32) (x15 : Int32) (x17 : Int32) (x18 : Int32) (x19 : Int32) : Option (Int32) := (f0_358 c_a4 x7 x9 x10 x11 x17 x18 x19 ((((x3 <<< (((3 : Int32) * x15) &&& 0x3f).toInt64) ||| ((x19.toInt64) <<< (((2 : Int32) * x15) &&& 0x3f).toInt64)) ||| ((x18.toInt64) <<< (x15 &&& 0x3f).toInt64)) ||| (x17.toInt64)))
set_option maxRecDepth 65536 in
set_option maxHeartbeats 40000000 in
theorem b0_330 {p : Program} {l : Launch} {e : Env} {s : State} {m : MethodId} {args : Array Value} {below : List Frame} {meth : Method} {c : Code} {Z : State} {a0 : Array Value} {n0 : Nat} (hx : p.tables.exec = Jvm.exec) (hZ : Z.Warmed39 s.vm) (hw : ∀ d ∈ tables_1, d.before a0 Z = true) (hby : c.code = code) (hml : c.maxLocals = 25) (hown : s.vm.findClass "com/example/once_match/oncematch/PrefixRegisterStateAtEndPinLaw" = some m.cls) (hnm : meth.name = "law") (hret : meth.sig.returnType = some .boolean) (hlk : meth.locks = false)  {T : State} {locs : List Loc} {h : Heap} (a4 : Addr) (c_a4 : Nat → Int32) (d0 : Int32) (d1 : Int32) (d2 : Int32) (x3 : Int64) (d5 : Int32) (d6 : Int32) (x7 : Int32) (d8 : Int32) (x9 : Int32) (x10 : Int32) (x11 : Int32) (d12 : Int32) (d14 : Int32) (x15 : Int32) (d16 : Int32) (x17 : Int32) (x18 : Int32) (x19 : Int32) (r : Int32) (X : Stand p l e room_1 s m args below meth c T locs 1 1) (eT : T.heap = h) (N : Fr n0 locs) (hsz : n0 ≤ h.size) (A_a4 : OAr Z h a4 .char 1 (ci c_a4)) (g_a4 : n0 ≤ a4) (hr : f0_330 c_a4 x3 x7 x9 x10 x11 x15 x17 x18 x19 = some r) :
    OG p e below s (fun v h L => v = (some (.int r)) ∧ Fr n0 L) 16 128 T (mkF m 330 #[.val (.int d0), .val (.int d1), .val (.int d2), .val (.long x3), .second, .val (.int d5), .val (.int d6), .val (.int x7), .val (.int d8), .val (.int x9), .val (.int x10), .val (.int x11), .val (.int d12), .val (.ref a4), .val (.int d14), .val (.int x15), .val (.int d16), .val (.int x17), .val (.int x18), .val (.int x19), .unset, .unset, .unset, .unset, .unset] []) := by
  have hr : (f0_358 c_a4 x7 x9 x10 x11 x17 x18 x19 ((((x3 <<< (((3 : Int32) * x15) &&& 0x3f).toInt64) ||| ((x19.toInt64) <<< (((2 : Int32) * x15) &&& 0x3f).toInt64)) ||| ((x18.toInt64) <<< (x15 &&& 0x3f).toInt64)) ||| (x17.toInt64))) = some r := hr
  refine o_lload_n X hx (hb hby at_330) rfl (pc' := 331) rfl ?_
  refine o_iconst X hx (hb hby at_331) (3 : Int32) rfl (pc' := 332) rfl ?_
  refine o_iload X hx (hb hby at_332) rfl (pc' := 334) rfl ?_
  refine o_imul X hx (hb hby at_334) (pc' := 335) rfl ?_
  refine o_lshl X hx (hb hby at_335) (pc' := 336) rfl ?_
  refine o_iload X hx (hb hby at_336) rfl (pc' := 338) rfl ?_
  refine o_i2l X hx (hb hby at_338) (pc' := 339) rfl ?_
  refine o_iconst X hx (hb hby at_339) (2 : Int32) rfl (pc' := 340) rfl ?_
  refine o_iload X hx (hb hby at_340) rfl (pc' := 342) rfl ?_
  refine o_imul X hx (hb hby at_342) (pc' := 343) rfl ?_
  refine o_lshl X hx (hb hby at_343) (pc' := 344) rfl ?_
  refine o_lor X hx (hb hby at_344) (pc' := 345) rfl ?_
  refine o_iload X hx (hb hby at_345) rfl (pc' := 347) rfl ?_
  refine o_i2l X hx (hb hby at_347) (pc' := 348) rfl ?_
  refine o_iload X hx (hb hby at_348) rfl (pc' := 350) rfl ?_
  refine o_lshl X hx (hb hby at_350) (pc' := 351) rfl ?_
  refine o_lor X hx (hb hby at_351) (pc' := 352) rfl ?_
  refine o_iload X hx (hb hby at_352) rfl (pc' := 354) rfl ?_
  refine o_i2l X hx (hb hby at_354) (pc' := 355) rfl ?_
  refine o_lor X hx (hb hby at_355) (pc' := 356) rfl ?_
  refine o_lstore X hx (hb hby at_356) #[.val (.int d0), .val (.int d1), .val (.int d2), .val (.long x3), .second, .val (.int d5), .val (.int d6), .val (.int x7), .val (.int d8), .val (.int x9), .val (.int x10), .val (.int x11), .val (.int d12), .val (.ref a4), .val (.int d14), .val (.int x15), .val (.int d16), .val (.int x17), .val (.int x18), .val (.int x19), .val (.long ((((x3 <<< (((3 : Int32) * x15) &&& 0x3f).toInt64) ||| ((x19.toInt64) <<< (((2 : Int32) * x15) &&& 0x3f).toInt64)) ||| ((x18.toInt64) <<< (x15 &&& 0x3f).toInt64)) ||| (x17.toInt64))), .second, .unset, .unset, .unset] rfl (pc' := 358) rfl ?_
  exact b0_358 hx hZ hw hby hml hown hnm hret hlk a4 c_a4 d0 d1 d2 x3 d5 d6 x7 d8 x9 x10 x11 d12 d14 x15 d16 x17 x18 x19 ((((x3 <<< (((3 : Int32) * x15) &&& 0x3f).toInt64) ||| ((x19.toInt64) <<< (((2 : Int32) * x15) &&& 0x3f).toInt64)) ||| ((x18.toInt64) <<< (x15 &&& 0x3f).toInt64)) ||| (x17.toInt64)) r X eT N hsz A_a4 g_a4 hr
def f0_304 (c_a4 : (Nat → Int32)) (x3 : Int64) (x5 : Int32) (x7 : Int32) (x9 : Int32) (x10 : Int32) (x11 : Int32) (x15 : Int32) (x16 : Int32) (x17 : Int32) (x18 : Int32) : Option (Int32) := (f0_330 c_a4 x3 x7 x9 x10 x11 x15 x17 x18 ((f1_0 (((x5.toUInt32 >>> ((7 : Int32) &&& 31).toUInt32).toInt32) &&& (3 : Int32)) x9 x10 x11 ((x5.toUInt32 >>> ((16 : Int32) &&& 31).toUInt32).toInt32)) &&& x16))
set_option maxRecDepth 65536 in
set_option maxHeartbeats 40000000 in
theorem b0_304 {p : Program} {l : Launch} {e : Env} {s : State} {m : MethodId} {args : Array Value} {below : List Frame} {meth : Method} {c : Code} {Z : State} {a0 : Array Value} {n0 : Nat} (hx : p.tables.exec = Jvm.exec) (hZ : Z.Warmed39 s.vm) (hw : ∀ d ∈ tables_1, d.before a0 Z = true) (hby : c.code = code) (hml : c.maxLocals = 25) (hown : s.vm.findClass "com/example/once_match/oncematch/PrefixRegisterStateAtEndPinLaw" = some m.cls) (hnm : meth.name = "law") (hret : meth.sig.returnType = some .boolean) (hlk : meth.locks = false)  {T : State} {locs : List Loc} {h : Heap} (a4 : Addr) (c_a4 : Nat → Int32) (d0 : Int32) (d1 : Int32) (d2 : Int32) (x3 : Int64) (x5 : Int32) (d6 : Int32) (x7 : Int32) (d8 : Int32) (x9 : Int32) (x10 : Int32) (x11 : Int32) (d12 : Int32) (d14 : Int32) (x15 : Int32) (x16 : Int32) (x17 : Int32) (x18 : Int32) (r : Int32) (X : Stand p l e room_1 s m args below meth c T locs 1 1) (eT : T.heap = h) (N : Fr n0 locs) (hsz : n0 ≤ h.size) (A_a4 : OAr Z h a4 .char 1 (ci c_a4)) (g_a4 : n0 ≤ a4) (hr : f0_304 c_a4 x3 x5 x7 x9 x10 x11 x15 x16 x17 x18 = some r) :
    OG p e below s (fun v h L => v = (some (.int r)) ∧ Fr n0 L) 16 128 T (mkF m 304 #[.val (.int d0), .val (.int d1), .val (.int d2), .val (.long x3), .second, .val (.int x5), .val (.int d6), .val (.int x7), .val (.int d8), .val (.int x9), .val (.int x10), .val (.int x11), .val (.int d12), .val (.ref a4), .val (.int d14), .val (.int x15), .val (.int x16), .val (.int x17), .val (.int x18), .unset, .unset, .unset, .unset, .unset, .unset] []) := by
  have hr : (f0_330 c_a4 x3 x7 x9 x10 x11 x15 x17 x18 ((f1_0 (((x5.toUInt32 >>> ((7 : Int32) &&& 31).toUInt32).toInt32) &&& (3 : Int32)) x9 x10 x11 ((x5.toUInt32 >>> ((16 : Int32) &&& 31).toUInt32).toInt32)) &&& x16)) = some r := hr
  refine o_iload X hx (hb hby at_304) rfl (pc' := 306) rfl ?_
  refine o_bipush X hx (hb hby at_306) (7 : Int32) rfl (pc' := 308) rfl ?_
  refine o_iushr X hx (hb hby at_308) (pc' := 309) rfl ?_
  refine o_iconst X hx (hb hby at_309) (3 : Int32) rfl (pc' := 310) rfl ?_
  refine o_iand X hx (hb hby at_310) (pc' := 311) rfl ?_
  refine o_iload X hx (hb hby at_311) rfl (pc' := 313) rfl ?_
  refine o_iload X hx (hb hby at_313) rfl (pc' := 315) rfl ?_
  refine o_iload X hx (hb hby at_315) rfl (pc' := 317) rfl ?_
  refine o_iload X hx (hb hby at_317) rfl (pc' := 319) rfl ?_
  refine o_bipush X hx (hb hby at_319) (16 : Int32) rfl (pc' := 321) rfl ?_
  refine o_iushr X hx (hb hby at_321) (pc' := 322) rfl ?_
  refine o_callS X hx hZ (argsL := [(.int (((x5.toUInt32 >>> ((7 : Int32) &&& 31).toUInt32).toInt32) &&& (3 : Int32))), (.int x9), (.int x10), (.int x11), (.int ((x5.toUInt32 >>> ((16 : Int32) &&& 31).toUInt32).toInt32))]) (rest := []) 0 hown eT (hw _ (List.mem_of_getElem? (i := 2) rfl)) (hw _ (List.mem_of_getElem? (i := 3) rfl)) (hw _ (List.mem_of_getElem? (i := 4) rfl)) (hw _ (List.mem_of_getElem? (i := 5) rfl)) (by decide) (rm1 l Z a0 hw [] (((x5.toUInt32 >>> ((7 : Int32) &&& 31).toUInt32).toInt32) &&& (3 : Int32)) x9 x10 x11 ((x5.toUInt32 >>> ((16 : Int32) &&& 31).toUInt32).toInt32) h n0 hsz (f1_0 (((x5.toUInt32 >>> ((7 : Int32) &&& 31).toUInt32).toInt32) &&& (3 : Int32)) x9 x10 x11 ((x5.toUInt32 >>> ((16 : Int32) &&& 31).toUInt32).toInt32)) rfl) (by decide) (by decide) (by rw [hml]; rfl) (lenOf pd_3 rfl) rfl (Nat.le_refl _) (hb hby at_322) (pc' := 325) rfl (by decide) (by decide) ?_
  rintro _ T11 L11 X11 ⟨rfl, N11, e11⟩
  replace X11 : Stand p l e room_1 s m args below meth c T11 (locs ++ L11) 1 1 := X11
  have M11 := Fr.app N N11
  dsimp only [Option.toList, List.cons_append, List.nil_append]
  refine o_iload X11 hx (hb hby at_325) rfl (pc' := 327) rfl ?_
  refine o_iand X11 hx (hb hby at_327) (pc' := 328) rfl ?_
  refine o_istore X11 hx (hb hby at_328) #[.val (.int d0), .val (.int d1), .val (.int d2), .val (.long x3), .second, .val (.int x5), .val (.int d6), .val (.int x7), .val (.int d8), .val (.int x9), .val (.int x10), .val (.int x11), .val (.int d12), .val (.ref a4), .val (.int d14), .val (.int x15), .val (.int x16), .val (.int x17), .val (.int x18), .val (.int ((f1_0 (((x5.toUInt32 >>> ((7 : Int32) &&& 31).toUInt32).toInt32) &&& (3 : Int32)) x9 x10 x11 ((x5.toUInt32 >>> ((16 : Int32) &&& 31).toUInt32).toInt32)) &&& x16)), .unset, .unset, .unset, .unset, .unset] rfl (pc' := 330) rfl ?_
  exact b0_330 hx hZ hw hby hml hown hnm hret hlk a4 c_a4 d0 d1 d2 x3 x5 d6 x7 d8 x9 x10 x11 d12 d14 x15 x16 x17 x18 ((f1_0 (((x5.toUInt32 >>> ((7 : Int32) &&& 31).toUInt32).toInt32) &&& (3 : Int32)) x9 x10 x11 ((x5.toUInt32 >>> ((16 : Int32) &&& 31).toUInt32).toInt32)) &&& x16) r X11 e11 M11 hsz A_a4 g_a4 hr
def f0_280 (c_a4 : (Nat → Int32)) (x2 : Int32) (x3 : Int64) (x5 : Int32) (x7 : Int32) (x9 : Int32) (x10 : Int32) (x11 : Int32) (x15 : Int32) (x16 : Int32) (x17 : Int32) : Option (Int32) := (f0_304 c_a4 x3 x5 x7 x9 x10 x11 x15 x16 x17 ((f1_0 (((x5.toUInt32 >>> ((5 : Int32) &&& 31).toUInt32).toInt32) &&& (3 : Int32)) x9 x10 x11 ((x2.toUInt32 >>> ((16 : Int32) &&& 31).toUInt32).toInt32)) &&& x16))
set_option maxRecDepth 65536 in
set_option maxHeartbeats 40000000 in
theorem b0_280 {p : Program} {l : Launch} {e : Env} {s : State} {m : MethodId} {args : Array Value} {below : List Frame} {meth : Method} {c : Code} {Z : State} {a0 : Array Value} {n0 : Nat} (hx : p.tables.exec = Jvm.exec) (hZ : Z.Warmed39 s.vm) (hw : ∀ d ∈ tables_1, d.before a0 Z = true) (hby : c.code = code) (hml : c.maxLocals = 25) (hown : s.vm.findClass "com/example/once_match/oncematch/PrefixRegisterStateAtEndPinLaw" = some m.cls) (hnm : meth.name = "law") (hret : meth.sig.returnType = some .boolean) (hlk : meth.locks = false)  {T : State} {locs : List Loc} {h : Heap} (a4 : Addr) (c_a4 : Nat → Int32) (d0 : Int32) (d1 : Int32) (x2 : Int32) (x3 : Int64) (x5 : Int32) (d6 : Int32) (x7 : Int32) (d8 : Int32) (x9 : Int32) (x10 : Int32) (x11 : Int32) (d12 : Int32) (d14 : Int32) (x15 : Int32) (x16 : Int32) (x17 : Int32) (r : Int32) (X : Stand p l e room_1 s m args below meth c T locs 1 1) (eT : T.heap = h) (N : Fr n0 locs) (hsz : n0 ≤ h.size) (A_a4 : OAr Z h a4 .char 1 (ci c_a4)) (g_a4 : n0 ≤ a4) (hr : f0_280 c_a4 x2 x3 x5 x7 x9 x10 x11 x15 x16 x17 = some r) :
    OG p e below s (fun v h L => v = (some (.int r)) ∧ Fr n0 L) 16 128 T (mkF m 280 #[.val (.int d0), .val (.int d1), .val (.int x2), .val (.long x3), .second, .val (.int x5), .val (.int d6), .val (.int x7), .val (.int d8), .val (.int x9), .val (.int x10), .val (.int x11), .val (.int d12), .val (.ref a4), .val (.int d14), .val (.int x15), .val (.int x16), .val (.int x17), .unset, .unset, .unset, .unset, .unset, .unset, .unset] []) := by
  have hr : (f0_304 c_a4 x3 x5 x7 x9 x10 x11 x15 x16 x17 ((f1_0 (((x5.toUInt32 >>> ((5 : Int32) &&& 31).toUInt32).toInt32) &&& (3 : Int32)) x9 x10 x11 ((x2.toUInt32 >>> ((16 : Int32) &&& 31).toUInt32).toInt32)) &&& x16)) = some r := hr
  refine o_iload X hx (hb hby at_280) rfl (pc' := 282) rfl ?_
  refine o_iconst X hx (hb hby at_282) (5 : Int32) rfl (pc' := 283) rfl ?_
  refine o_iushr X hx (hb hby at_283) (pc' := 284) rfl ?_
  refine o_iconst X hx (hb hby at_284) (3 : Int32) rfl (pc' := 285) rfl ?_
  refine o_iand X hx (hb hby at_285) (pc' := 286) rfl ?_
  refine o_iload X hx (hb hby at_286) rfl (pc' := 288) rfl ?_
  refine o_iload X hx (hb hby at_288) rfl (pc' := 290) rfl ?_
  refine o_iload X hx (hb hby at_290) rfl (pc' := 292) rfl ?_
  refine o_iload_n X hx (hb hby at_292) rfl (pc' := 293) rfl ?_
  refine o_bipush X hx (hb hby at_293) (16 : Int32) rfl (pc' := 295) rfl ?_
  refine o_iushr X hx (hb hby at_295) (pc' := 296) rfl ?_
  refine o_callS X hx hZ (argsL := [(.int (((x5.toUInt32 >>> ((5 : Int32) &&& 31).toUInt32).toInt32) &&& (3 : Int32))), (.int x9), (.int x10), (.int x11), (.int ((x2.toUInt32 >>> ((16 : Int32) &&& 31).toUInt32).toInt32))]) (rest := []) 0 hown eT (hw _ (List.mem_of_getElem? (i := 2) rfl)) (hw _ (List.mem_of_getElem? (i := 3) rfl)) (hw _ (List.mem_of_getElem? (i := 4) rfl)) (hw _ (List.mem_of_getElem? (i := 5) rfl)) (by decide) (rm1 l Z a0 hw [] (((x5.toUInt32 >>> ((5 : Int32) &&& 31).toUInt32).toInt32) &&& (3 : Int32)) x9 x10 x11 ((x2.toUInt32 >>> ((16 : Int32) &&& 31).toUInt32).toInt32) h n0 hsz (f1_0 (((x5.toUInt32 >>> ((5 : Int32) &&& 31).toUInt32).toInt32) &&& (3 : Int32)) x9 x10 x11 ((x2.toUInt32 >>> ((16 : Int32) &&& 31).toUInt32).toInt32)) rfl) (by decide) (by decide) (by rw [hml]; rfl) (lenOf pd_3 rfl) rfl (Nat.le_refl _) (hb hby at_296) (pc' := 299) rfl (by decide) (by decide) ?_
  rintro _ T10 L10 X10 ⟨rfl, N10, e10⟩
  replace X10 : Stand p l e room_1 s m args below meth c T10 (locs ++ L10) 1 1 := X10
  have M10 := Fr.app N N10
  dsimp only [Option.toList, List.cons_append, List.nil_append]
  refine o_iload X10 hx (hb hby at_299) rfl (pc' := 301) rfl ?_
  refine o_iand X10 hx (hb hby at_301) (pc' := 302) rfl ?_
  refine o_istore X10 hx (hb hby at_302) #[.val (.int d0), .val (.int d1), .val (.int x2), .val (.long x3), .second, .val (.int x5), .val (.int d6), .val (.int x7), .val (.int d8), .val (.int x9), .val (.int x10), .val (.int x11), .val (.int d12), .val (.ref a4), .val (.int d14), .val (.int x15), .val (.int x16), .val (.int x17), .val (.int ((f1_0 (((x5.toUInt32 >>> ((5 : Int32) &&& 31).toUInt32).toInt32) &&& (3 : Int32)) x9 x10 x11 ((x2.toUInt32 >>> ((16 : Int32) &&& 31).toUInt32).toInt32)) &&& x16)), .unset, .unset, .unset, .unset, .unset, .unset] rfl (pc' := 304) rfl ?_
  exact b0_304 hx hZ hw hby hml hown hnm hret hlk a4 c_a4 d0 d1 x2 x3 x5 d6 x7 d8 x9 x10 x11 d12 d14 x15 x16 x17 ((f1_0 (((x5.toUInt32 >>> ((5 : Int32) &&& 31).toUInt32).toInt32) &&& (3 : Int32)) x9 x10 x11 ((x2.toUInt32 >>> ((16 : Int32) &&& 31).toUInt32).toInt32)) &&& x16) r X10 e10 M10 hsz A_a4 g_a4 hr
def f0_254 (c_a4 : (Nat → Int32)) (x2 : Int32) (x3 : Int64) (x5 : Int32) (x7 : Int32) (x9 : Int32) (x10 : Int32) (x11 : Int32) (x15 : Int32) (t0 : Int32) : Option (Int32) := (f0_280 c_a4 x2 x3 x5 x7 x9 x10 x11 x15 t0 ((f1_0 (((x5.toUInt32 >>> ((3 : Int32) &&& 31).toUInt32).toInt32) &&& (3 : Int32)) x9 x10 x11 (x2 &&& (65535 : Int32))) &&& t0))
set_option maxRecDepth 65536 in
set_option maxHeartbeats 40000000 in
theorem b0_254 {p : Program} {l : Launch} {e : Env} {s : State} {m : MethodId} {args : Array Value} {below : List Frame} {meth : Method} {c : Code} {Z : State} {a0 : Array Value} {n0 : Nat} (hx : p.tables.exec = Jvm.exec) (hZ : Z.Warmed39 s.vm) (hw : ∀ d ∈ tables_1, d.before a0 Z = true) (hby : c.code = code) (hml : c.maxLocals = 25) (hown : s.vm.findClass "com/example/once_match/oncematch/PrefixRegisterStateAtEndPinLaw" = some m.cls) (hnm : meth.name = "law") (hret : meth.sig.returnType = some .boolean) (hlk : meth.locks = false)  {T : State} {locs : List Loc} {h : Heap} (a4 : Addr) (c_a4 : Nat → Int32) (d0 : Int32) (d1 : Int32) (x2 : Int32) (x3 : Int64) (x5 : Int32) (d6 : Int32) (x7 : Int32) (d8 : Int32) (x9 : Int32) (x10 : Int32) (x11 : Int32) (d12 : Int32) (d14 : Int32) (x15 : Int32) (t0 : Int32) (r : Int32) (X : Stand p l e room_1 s m args below meth c T locs 1 1) (eT : T.heap = h) (N : Fr n0 locs) (hsz : n0 ≤ h.size) (A_a4 : OAr Z h a4 .char 1 (ci c_a4)) (g_a4 : n0 ≤ a4) (hr : f0_254 c_a4 x2 x3 x5 x7 x9 x10 x11 x15 t0 = some r) :
    OG p e below s (fun v h L => v = (some (.int r)) ∧ Fr n0 L) 16 128 T (mkF m 254 #[.val (.int d0), .val (.int d1), .val (.int x2), .val (.long x3), .second, .val (.int x5), .val (.int d6), .val (.int x7), .val (.int d8), .val (.int x9), .val (.int x10), .val (.int x11), .val (.int d12), .val (.ref a4), .val (.int d14), .val (.int x15), .unset, .unset, .unset, .unset, .unset, .unset, .unset, .unset, .unset] [(.int t0)]) := by
  have hr : (f0_280 c_a4 x2 x3 x5 x7 x9 x10 x11 x15 t0 ((f1_0 (((x5.toUInt32 >>> ((3 : Int32) &&& 31).toUInt32).toInt32) &&& (3 : Int32)) x9 x10 x11 (x2 &&& (65535 : Int32))) &&& t0)) = some r := hr
  refine o_istore X hx (hb hby at_254) #[.val (.int d0), .val (.int d1), .val (.int x2), .val (.long x3), .second, .val (.int x5), .val (.int d6), .val (.int x7), .val (.int d8), .val (.int x9), .val (.int x10), .val (.int x11), .val (.int d12), .val (.ref a4), .val (.int d14), .val (.int x15), .val (.int t0), .unset, .unset, .unset, .unset, .unset, .unset, .unset, .unset] rfl (pc' := 256) rfl ?_
  refine o_iload X hx (hb hby at_256) rfl (pc' := 258) rfl ?_
  refine o_iconst X hx (hb hby at_258) (3 : Int32) rfl (pc' := 259) rfl ?_
  refine o_iushr X hx (hb hby at_259) (pc' := 260) rfl ?_
  refine o_iconst X hx (hb hby at_260) (3 : Int32) rfl (pc' := 261) rfl ?_
  refine o_iand X hx (hb hby at_261) (pc' := 262) rfl ?_
  refine o_iload X hx (hb hby at_262) rfl (pc' := 264) rfl ?_
  refine o_iload X hx (hb hby at_264) rfl (pc' := 266) rfl ?_
  refine o_iload X hx (hb hby at_266) rfl (pc' := 268) rfl ?_
  refine o_iload_n X hx (hb hby at_268) rfl (pc' := 269) rfl ?_
  refine o_ldcInt X hx hZ hown (hb hby at_269) (hw _ (List.mem_of_getElem? (i := 0) rfl)) (pc' := 271) rfl ?_
  refine o_iand X hx (hb hby at_271) (pc' := 272) rfl ?_
  refine o_callS X hx hZ (argsL := [(.int (((x5.toUInt32 >>> ((3 : Int32) &&& 31).toUInt32).toInt32) &&& (3 : Int32))), (.int x9), (.int x10), (.int x11), (.int (x2 &&& (65535 : Int32)))]) (rest := []) 0 hown eT (hw _ (List.mem_of_getElem? (i := 2) rfl)) (hw _ (List.mem_of_getElem? (i := 3) rfl)) (hw _ (List.mem_of_getElem? (i := 4) rfl)) (hw _ (List.mem_of_getElem? (i := 5) rfl)) (by decide) (rm1 l Z a0 hw [] (((x5.toUInt32 >>> ((3 : Int32) &&& 31).toUInt32).toInt32) &&& (3 : Int32)) x9 x10 x11 (x2 &&& (65535 : Int32)) h n0 hsz (f1_0 (((x5.toUInt32 >>> ((3 : Int32) &&& 31).toUInt32).toInt32) &&& (3 : Int32)) x9 x10 x11 (x2 &&& (65535 : Int32))) rfl) (by decide) (by decide) (by rw [hml]; rfl) (lenOf pd_3 rfl) rfl (Nat.le_refl _) (hb hby at_272) (pc' := 275) rfl (by decide) (by decide) ?_
  rintro _ T9 L9 X9 ⟨rfl, N9, e9⟩
  replace X9 : Stand p l e room_1 s m args below meth c T9 (locs ++ L9) 1 1 := X9
  have M9 := Fr.app N N9
  dsimp only [Option.toList, List.cons_append, List.nil_append]
  refine o_iload X9 hx (hb hby at_275) rfl (pc' := 277) rfl ?_
  refine o_iand X9 hx (hb hby at_277) (pc' := 278) rfl ?_
  refine o_istore X9 hx (hb hby at_278) #[.val (.int d0), .val (.int d1), .val (.int x2), .val (.long x3), .second, .val (.int x5), .val (.int d6), .val (.int x7), .val (.int d8), .val (.int x9), .val (.int x10), .val (.int x11), .val (.int d12), .val (.ref a4), .val (.int d14), .val (.int x15), .val (.int t0), .val (.int ((f1_0 (((x5.toUInt32 >>> ((3 : Int32) &&& 31).toUInt32).toInt32) &&& (3 : Int32)) x9 x10 x11 (x2 &&& (65535 : Int32))) &&& t0)), .unset, .unset, .unset, .unset, .unset, .unset, .unset] rfl (pc' := 280) rfl ?_
  exact b0_280 hx hZ hw hby hml hown hnm hret hlk a4 c_a4 d0 d1 x2 x3 x5 d6 x7 d8 x9 x10 x11 d12 d14 x15 t0 ((f1_0 (((x5.toUInt32 >>> ((3 : Int32) &&& 31).toUInt32).toInt32) &&& (3 : Int32)) x9 x10 x11 (x2 &&& (65535 : Int32))) &&& t0) r X9 e9 M9 hsz A_a4 g_a4 hr
def f0_239 (c_a4 : (Nat → Int32)) (x2 : Int32) (x3 : Int64) (x5 : Int32) (x7 : Int32) (x9 : Int32) (x10 : Int32) (x11 : Int32) (x14 : Int32) (t0 : Int32) : Option (Int32) := (if x14 = (0 : Int32) then (f0_254 c_a4 x2 x3 x5 x7 x9 x10 x11 t0 (65535 : Int32)) else (f0_254 c_a4 x2 x3 x5 x7 x9 x10 x11 t0 (255 : Int32)))
set_option maxRecDepth 65536 in
set_option maxHeartbeats 40000000 in
theorem b0_239 {p : Program} {l : Launch} {e : Env} {s : State} {m : MethodId} {args : Array Value} {below : List Frame} {meth : Method} {c : Code} {Z : State} {a0 : Array Value} {n0 : Nat} (hx : p.tables.exec = Jvm.exec) (hZ : Z.Warmed39 s.vm) (hw : ∀ d ∈ tables_1, d.before a0 Z = true) (hby : c.code = code) (hml : c.maxLocals = 25) (hown : s.vm.findClass "com/example/once_match/oncematch/PrefixRegisterStateAtEndPinLaw" = some m.cls) (hnm : meth.name = "law") (hret : meth.sig.returnType = some .boolean) (hlk : meth.locks = false)  {T : State} {locs : List Loc} {h : Heap} (a4 : Addr) (c_a4 : Nat → Int32) (d0 : Int32) (d1 : Int32) (x2 : Int32) (x3 : Int64) (x5 : Int32) (d6 : Int32) (x7 : Int32) (d8 : Int32) (x9 : Int32) (x10 : Int32) (x11 : Int32) (d12 : Int32) (x14 : Int32) (t0 : Int32) (r : Int32) (X : Stand p l e room_1 s m args below meth c T locs 1 1) (eT : T.heap = h) (N : Fr n0 locs) (hsz : n0 ≤ h.size) (A_a4 : OAr Z h a4 .char 1 (ci c_a4)) (g_a4 : n0 ≤ a4) (hr : f0_239 c_a4 x2 x3 x5 x7 x9 x10 x11 x14 t0 = some r) :
    OG p e below s (fun v h L => v = (some (.int r)) ∧ Fr n0 L) 16 128 T (mkF m 239 #[.val (.int d0), .val (.int d1), .val (.int x2), .val (.long x3), .second, .val (.int x5), .val (.int d6), .val (.int x7), .val (.int d8), .val (.int x9), .val (.int x10), .val (.int x11), .val (.int d12), .val (.ref a4), .val (.int x14), .unset, .unset, .unset, .unset, .unset, .unset, .unset, .unset, .unset, .unset] [(.int t0)]) := by
  have hr : (if x14 = (0 : Int32) then (f0_254 c_a4 x2 x3 x5 x7 x9 x10 x11 t0 (65535 : Int32)) else (f0_254 c_a4 x2 x3 x5 x7 x9 x10 x11 t0 (255 : Int32))) = some r := hr
  refine o_istore X hx (hb hby at_239) #[.val (.int d0), .val (.int d1), .val (.int x2), .val (.long x3), .second, .val (.int x5), .val (.int d6), .val (.int x7), .val (.int d8), .val (.int x9), .val (.int x10), .val (.int x11), .val (.int d12), .val (.ref a4), .val (.int x14), .val (.int t0), .unset, .unset, .unset, .unset, .unset, .unset, .unset, .unset, .unset] rfl (pc' := 241) rfl ?_
  refine o_iload X hx (hb hby at_241) rfl (pc' := 243) rfl ?_
  by_cases hc8 : x14 = (0 : Int32)
  · rw [if_pos hc8] at hr
    refine o_ifYes X hx (hb hby at_243) (z_teq hc8).1 (pc' := 252) (by decide) (by decide) ?_
    refine o_ldcInt X hx hZ hown (hb hby at_252) (hw _ (List.mem_of_getElem? (i := 0) rfl)) (pc' := 254) rfl ?_
    exact b0_254 hx hZ hw hby hml hown hnm hret hlk a4 c_a4 d0 d1 x2 x3 x5 d6 x7 d8 x9 x10 x11 d12 x14 t0 (65535 : Int32) r X eT N hsz A_a4 g_a4 hr
  · rw [if_neg hc8] at hr
    refine o_ifNo X hx (hb hby at_243) (z_feq hc8).1 (pc' := 246) rfl ?_
    refine o_sipush X hx (hb hby at_246) (255 : Int32) rfl (pc' := 249) rfl ?_
    refine o_goto X hx (hb hby at_249) (pc' := 254) (by decide) (by decide) ?_
    exact b0_254 hx hZ hw hby hml hown hnm hret hlk a4 c_a4 d0 d1 x2 x3 x5 d6 x7 d8 x9 x10 x11 d12 x14 t0 (255 : Int32) r X eT N hsz A_a4 g_a4 hr
def f0_225 (c_a4 : (Nat → Int32)) (x2 : Int32) (x3 : Int64) (x5 : Int32) (x7 : Int32) (x9 : Int32) (x10 : Int32) (x11 : Int32) (t0 : Int32) : Option (Int32) := (if t0 = (0 : Int32) then (f0_239 c_a4 x2 x3 x5 x7 x9 x10 x11 t0 (16 : Int32)) else (f0_239 c_a4 x2 x3 x5 x7 x9 x10 x11 t0 (8 : Int32)))
set_option maxRecDepth 65536 in
set_option maxHeartbeats 40000000 in
theorem b0_225 {p : Program} {l : Launch} {e : Env} {s : State} {m : MethodId} {args : Array Value} {below : List Frame} {meth : Method} {c : Code} {Z : State} {a0 : Array Value} {n0 : Nat} (hx : p.tables.exec = Jvm.exec) (hZ : Z.Warmed39 s.vm) (hw : ∀ d ∈ tables_1, d.before a0 Z = true) (hby : c.code = code) (hml : c.maxLocals = 25) (hown : s.vm.findClass "com/example/once_match/oncematch/PrefixRegisterStateAtEndPinLaw" = some m.cls) (hnm : meth.name = "law") (hret : meth.sig.returnType = some .boolean) (hlk : meth.locks = false)  {T : State} {locs : List Loc} {h : Heap} (a4 : Addr) (c_a4 : Nat → Int32) (d0 : Int32) (d1 : Int32) (x2 : Int32) (x3 : Int64) (x5 : Int32) (d6 : Int32) (x7 : Int32) (d8 : Int32) (x9 : Int32) (x10 : Int32) (x11 : Int32) (d12 : Int32) (t0 : Int32) (r : Int32) (X : Stand p l e room_1 s m args below meth c T locs 1 1) (eT : T.heap = h) (N : Fr n0 locs) (hsz : n0 ≤ h.size) (A_a4 : OAr Z h a4 .char 1 (ci c_a4)) (g_a4 : n0 ≤ a4) (hr : f0_225 c_a4 x2 x3 x5 x7 x9 x10 x11 t0 = some r) :
    OG p e below s (fun v h L => v = (some (.int r)) ∧ Fr n0 L) 16 128 T (mkF m 225 #[.val (.int d0), .val (.int d1), .val (.int x2), .val (.long x3), .second, .val (.int x5), .val (.int d6), .val (.int x7), .val (.int d8), .val (.int x9), .val (.int x10), .val (.int x11), .val (.int d12), .val (.ref a4), .unset, .unset, .unset, .unset, .unset, .unset, .unset, .unset, .unset, .unset, .unset] [(.int t0)]) := by
  have hr : (if t0 = (0 : Int32) then (f0_239 c_a4 x2 x3 x5 x7 x9 x10 x11 t0 (16 : Int32)) else (f0_239 c_a4 x2 x3 x5 x7 x9 x10 x11 t0 (8 : Int32))) = some r := hr
  refine o_istore X hx (hb hby at_225) #[.val (.int d0), .val (.int d1), .val (.int x2), .val (.long x3), .second, .val (.int x5), .val (.int d6), .val (.int x7), .val (.int d8), .val (.int x9), .val (.int x10), .val (.int x11), .val (.int d12), .val (.ref a4), .val (.int t0), .unset, .unset, .unset, .unset, .unset, .unset, .unset, .unset, .unset, .unset] rfl (pc' := 227) rfl ?_
  refine o_iload X hx (hb hby at_227) rfl (pc' := 229) rfl ?_
  by_cases hc7 : t0 = (0 : Int32)
  · rw [if_pos hc7] at hr
    refine o_ifYes X hx (hb hby at_229) (z_teq hc7).1 (pc' := 237) (by decide) (by decide) ?_
    refine o_bipush X hx (hb hby at_237) (16 : Int32) rfl (pc' := 239) rfl ?_
    exact b0_239 hx hZ hw hby hml hown hnm hret hlk a4 c_a4 d0 d1 x2 x3 x5 d6 x7 d8 x9 x10 x11 d12 t0 (16 : Int32) r X eT N hsz A_a4 g_a4 hr
  · rw [if_neg hc7] at hr
    refine o_ifNo X hx (hb hby at_229) (z_feq hc7).1 (pc' := 232) rfl ?_
    refine o_bipush X hx (hb hby at_232) (8 : Int32) rfl (pc' := 234) rfl ?_
    refine o_goto X hx (hb hby at_234) (pc' := 239) (by decide) (by decide) ?_
    exact b0_239 hx hZ hw hby hml hown hnm hret hlk a4 c_a4 d0 d1 x2 x3 x5 d6 x7 d8 x9 x10 x11 d12 t0 (8 : Int32) r X eT N hsz A_a4 g_a4 hr
def f0_224 (c_a4 : (Nat → Int32)) (x2 : Int32) (x3 : Int64) (x5 : Int32) (x7 : Int32) (x9 : Int32) (x10 : Int32) (x11 : Int32) : Option (Int32) := (f0_225 c_a4 x2 x3 x5 x7 x9 x10 x11 (0 : Int32))
set_option maxRecDepth 65536 in
set_option maxHeartbeats 40000000 in
theorem b0_224 {p : Program} {l : Launch} {e : Env} {s : State} {m : MethodId} {args : Array Value} {below : List Frame} {meth : Method} {c : Code} {Z : State} {a0 : Array Value} {n0 : Nat} (hx : p.tables.exec = Jvm.exec) (hZ : Z.Warmed39 s.vm) (hw : ∀ d ∈ tables_1, d.before a0 Z = true) (hby : c.code = code) (hml : c.maxLocals = 25) (hown : s.vm.findClass "com/example/once_match/oncematch/PrefixRegisterStateAtEndPinLaw" = some m.cls) (hnm : meth.name = "law") (hret : meth.sig.returnType = some .boolean) (hlk : meth.locks = false)  {T : State} {locs : List Loc} {h : Heap} (a4 : Addr) (c_a4 : Nat → Int32) (d0 : Int32) (d1 : Int32) (x2 : Int32) (x3 : Int64) (x5 : Int32) (d6 : Int32) (x7 : Int32) (d8 : Int32) (x9 : Int32) (x10 : Int32) (x11 : Int32) (d12 : Int32) (r : Int32) (X : Stand p l e room_1 s m args below meth c T locs 1 1) (eT : T.heap = h) (N : Fr n0 locs) (hsz : n0 ≤ h.size) (A_a4 : OAr Z h a4 .char 1 (ci c_a4)) (g_a4 : n0 ≤ a4) (hr : f0_224 c_a4 x2 x3 x5 x7 x9 x10 x11 = some r) :
    OG p e below s (fun v h L => v = (some (.int r)) ∧ Fr n0 L) 16 128 T (mkF m 224 #[.val (.int d0), .val (.int d1), .val (.int x2), .val (.long x3), .second, .val (.int x5), .val (.int d6), .val (.int x7), .val (.int d8), .val (.int x9), .val (.int x10), .val (.int x11), .val (.int d12), .val (.ref a4), .unset, .unset, .unset, .unset, .unset, .unset, .unset, .unset, .unset, .unset, .unset] []) := by
  have hr : (f0_225 c_a4 x2 x3 x5 x7 x9 x10 x11 (0 : Int32)) = some r := hr
  refine o_iconst X hx (hb hby at_224) (0 : Int32) rfl (pc' := 225) rfl ?_
  exact b0_225 hx hZ hw hby hml hown hnm hret hlk a4 c_a4 d0 d1 x2 x3 x5 d6 x7 d8 x9 x10 x11 d12 (0 : Int32) r X eT N hsz A_a4 g_a4 hr
def f0_220 (c_a4 : (Nat → Int32)) (x2 : Int32) (x3 : Int64) (x5 : Int32) (x7 : Int32) (x9 : Int32) (x10 : Int32) (x11 : Int32) : Option (Int32) := (f0_225 c_a4 x2 x3 x5 x7 x9 x10 x11 (1 : Int32))
set_option maxRecDepth 65536 in
set_option maxHeartbeats 40000000 in
theorem b0_220 {p : Program} {l : Launch} {e : Env} {s : State} {m : MethodId} {args : Array Value} {below : List Frame} {meth : Method} {c : Code} {Z : State} {a0 : Array Value} {n0 : Nat} (hx : p.tables.exec = Jvm.exec) (hZ : Z.Warmed39 s.vm) (hw : ∀ d ∈ tables_1, d.before a0 Z = true) (hby : c.code = code) (hml : c.maxLocals = 25) (hown : s.vm.findClass "com/example/once_match/oncematch/PrefixRegisterStateAtEndPinLaw" = some m.cls) (hnm : meth.name = "law") (hret : meth.sig.returnType = some .boolean) (hlk : meth.locks = false)  {T : State} {locs : List Loc} {h : Heap} (a4 : Addr) (c_a4 : Nat → Int32) (d0 : Int32) (d1 : Int32) (x2 : Int32) (x3 : Int64) (x5 : Int32) (d6 : Int32) (x7 : Int32) (d8 : Int32) (x9 : Int32) (x10 : Int32) (x11 : Int32) (d12 : Int32) (r : Int32) (X : Stand p l e room_1 s m args below meth c T locs 1 1) (eT : T.heap = h) (N : Fr n0 locs) (hsz : n0 ≤ h.size) (A_a4 : OAr Z h a4 .char 1 (ci c_a4)) (g_a4 : n0 ≤ a4) (hr : f0_220 c_a4 x2 x3 x5 x7 x9 x10 x11 = some r) :
    OG p e below s (fun v h L => v = (some (.int r)) ∧ Fr n0 L) 16 128 T (mkF m 220 #[.val (.int d0), .val (.int d1), .val (.int x2), .val (.long x3), .second, .val (.int x5), .val (.int d6), .val (.int x7), .val (.int d8), .val (.int x9), .val (.int x10), .val (.int x11), .val (.int d12), .val (.ref a4), .unset, .unset, .unset, .unset, .unset, .unset, .unset, .unset, .unset, .unset, .unset] []) := by
  have hr : (f0_225 c_a4 x2 x3 x5 x7 x9 x10 x11 (1 : Int32)) = some r := hr
  refine o_iconst X hx (hb hby at_220) (1 : Int32) rfl (pc' := 221) rfl ?_
  refine o_goto X hx (hb hby at_221) (pc' := 225) (by decide) (by decide) ?_
  exact b0_225 hx hZ hw hby hml hown hnm hret hlk a4 c_a4 d0 d1 x2 x3 x5 d6 x7 d8 x9 x10 x11 d12 (1 : Int32) r X eT N hsz A_a4 g_a4 hr
def f0_206 (c_a4 : (Nat → Int32)) (x2 : Int32) (x3 : Int64) (x5 : Int32) (x7 : Int32) (x9 : Int32) (x10 : Int32) (x11 : Int32) (x12 : Int32) : Option (Int32) := (if x7 < (4 : Int32) then (f0_220 c_a4 x2 x3 x5 x7 x9 x10 x11) else (if (255 : Int32) < x12 then (f0_224 c_a4 x2 x3 x5 x7 x9 x10 x11) else (f0_220 c_a4 x2 x3 x5 x7 x9 x10 x11)))
set_option maxRecDepth 65536 in
set_option maxHeartbeats 40000000 in
theorem b0_206 {p : Program} {l : Launch} {e : Env} {s : State} {m : MethodId} {args : Array Value} {below : List Frame} {meth : Method} {c : Code} {Z : State} {a0 : Array Value} {n0 : Nat} (hx : p.tables.exec = Jvm.exec) (hZ : Z.Warmed39 s.vm) (hw : ∀ d ∈ tables_1, d.before a0 Z = true) (hby : c.code = code) (hml : c.maxLocals = 25) (hown : s.vm.findClass "com/example/once_match/oncematch/PrefixRegisterStateAtEndPinLaw" = some m.cls) (hnm : meth.name = "law") (hret : meth.sig.returnType = some .boolean) (hlk : meth.locks = false)  {T : State} {locs : List Loc} {h : Heap} (a4 : Addr) (c_a4 : Nat → Int32) (d0 : Int32) (d1 : Int32) (x2 : Int32) (x3 : Int64) (x5 : Int32) (d6 : Int32) (x7 : Int32) (d8 : Int32) (x9 : Int32) (x10 : Int32) (x11 : Int32) (x12 : Int32) (r : Int32) (X : Stand p l e room_1 s m args below meth c T locs 1 1) (eT : T.heap = h) (N : Fr n0 locs) (hsz : n0 ≤ h.size) (A_a4 : OAr Z h a4 .char 1 (ci c_a4)) (g_a4 : n0 ≤ a4) (hr : f0_206 c_a4 x2 x3 x5 x7 x9 x10 x11 x12 = some r) :
    OG p e below s (fun v h L => v = (some (.int r)) ∧ Fr n0 L) 16 128 T (mkF m 206 #[.val (.int d0), .val (.int d1), .val (.int x2), .val (.long x3), .second, .val (.int x5), .val (.int d6), .val (.int x7), .val (.int d8), .val (.int x9), .val (.int x10), .val (.int x11), .val (.int x12), .val (.ref a4), .unset, .unset, .unset, .unset, .unset, .unset, .unset, .unset, .unset, .unset, .unset] []) := by
  have hr : (if x7 < (4 : Int32) then (f0_220 c_a4 x2 x3 x5 x7 x9 x10 x11) else (if (255 : Int32) < x12 then (f0_224 c_a4 x2 x3 x5 x7 x9 x10 x11) else (f0_220 c_a4 x2 x3 x5 x7 x9 x10 x11))) = some r := hr
  refine o_iload X hx (hb hby at_206) rfl (pc' := 208) rfl ?_
  refine o_iconst X hx (hb hby at_208) (4 : Int32) rfl (pc' := 209) rfl ?_
  by_cases hc27 : x7 < (4 : Int32)
  · rw [if_pos hc27] at hr
    refine o_icmpYes X hx (hb hby at_209) (c_tlt hc27).1 (pc' := 220) (by decide) (by decide) ?_
    exact b0_220 hx hZ hw hby hml hown hnm hret hlk a4 c_a4 d0 d1 x2 x3 x5 d6 x7 d8 x9 x10 x11 x12 r X eT N hsz A_a4 g_a4 hr
  · rw [if_neg hc27] at hr
    refine o_icmpNo X hx (hb hby at_209) (c_flt hc27).1 (pc' := 212) rfl ?_
    refine o_iload X hx (hb hby at_212) rfl (pc' := 214) rfl ?_
    refine o_sipush X hx (hb hby at_214) (255 : Int32) rfl (pc' := 217) rfl ?_
    by_cases hc28 : (255 : Int32) < x12
    · rw [if_pos hc28] at hr
      refine o_icmpYes X hx (hb hby at_217) (c_tgt hc28).1 (pc' := 224) (by decide) (by decide) ?_
      exact b0_224 hx hZ hw hby hml hown hnm hret hlk a4 c_a4 d0 d1 x2 x3 x5 d6 x7 d8 x9 x10 x11 x12 r X eT N hsz A_a4 g_a4 hr
    · rw [if_neg hc28] at hr
      refine o_icmpNo X hx (hb hby at_217) (c_fgt hc28).1 (pc' := 220) rfl ?_
      exact b0_220 hx hZ hw hby hml hown hnm hret hlk a4 c_a4 d0 d1 x2 x3 x5 d6 x7 d8 x9 x10 x11 x12 r X eT N hsz A_a4 g_a4 hr
def f0_192 (c_a4 : (Nat → Int32)) (x2 : Int32) (x3 : Int64) (x5 : Int32) (x7 : Int32) (x9 : Int32) (x10 : Int32) (x11 : Int32) (x12 : Int32) : Option (Int32) := (if x7 < (3 : Int32) then (f0_206 c_a4 x2 x3 x5 x7 x9 x10 x11 x12) else (if (255 : Int32) < x11 then (f0_224 c_a4 x2 x3 x5 x7 x9 x10 x11) else (f0_206 c_a4 x2 x3 x5 x7 x9 x10 x11 x12)))
set_option maxRecDepth 65536 in
set_option maxHeartbeats 40000000 in
theorem b0_192 {p : Program} {l : Launch} {e : Env} {s : State} {m : MethodId} {args : Array Value} {below : List Frame} {meth : Method} {c : Code} {Z : State} {a0 : Array Value} {n0 : Nat} (hx : p.tables.exec = Jvm.exec) (hZ : Z.Warmed39 s.vm) (hw : ∀ d ∈ tables_1, d.before a0 Z = true) (hby : c.code = code) (hml : c.maxLocals = 25) (hown : s.vm.findClass "com/example/once_match/oncematch/PrefixRegisterStateAtEndPinLaw" = some m.cls) (hnm : meth.name = "law") (hret : meth.sig.returnType = some .boolean) (hlk : meth.locks = false)  {T : State} {locs : List Loc} {h : Heap} (a4 : Addr) (c_a4 : Nat → Int32) (d0 : Int32) (d1 : Int32) (x2 : Int32) (x3 : Int64) (x5 : Int32) (d6 : Int32) (x7 : Int32) (d8 : Int32) (x9 : Int32) (x10 : Int32) (x11 : Int32) (x12 : Int32) (r : Int32) (X : Stand p l e room_1 s m args below meth c T locs 1 1) (eT : T.heap = h) (N : Fr n0 locs) (hsz : n0 ≤ h.size) (A_a4 : OAr Z h a4 .char 1 (ci c_a4)) (g_a4 : n0 ≤ a4) (hr : f0_192 c_a4 x2 x3 x5 x7 x9 x10 x11 x12 = some r) :
    OG p e below s (fun v h L => v = (some (.int r)) ∧ Fr n0 L) 16 128 T (mkF m 192 #[.val (.int d0), .val (.int d1), .val (.int x2), .val (.long x3), .second, .val (.int x5), .val (.int d6), .val (.int x7), .val (.int d8), .val (.int x9), .val (.int x10), .val (.int x11), .val (.int x12), .val (.ref a4), .unset, .unset, .unset, .unset, .unset, .unset, .unset, .unset, .unset, .unset, .unset] []) := by
  have hr : (if x7 < (3 : Int32) then (f0_206 c_a4 x2 x3 x5 x7 x9 x10 x11 x12) else (if (255 : Int32) < x11 then (f0_224 c_a4 x2 x3 x5 x7 x9 x10 x11) else (f0_206 c_a4 x2 x3 x5 x7 x9 x10 x11 x12))) = some r := hr
  refine o_iload X hx (hb hby at_192) rfl (pc' := 194) rfl ?_
  refine o_iconst X hx (hb hby at_194) (3 : Int32) rfl (pc' := 195) rfl ?_
  by_cases hc26 : x7 < (3 : Int32)
  · rw [if_pos hc26] at hr
    refine o_icmpYes X hx (hb hby at_195) (c_tlt hc26).1 (pc' := 206) (by decide) (by decide) ?_
    exact b0_206 hx hZ hw hby hml hown hnm hret hlk a4 c_a4 d0 d1 x2 x3 x5 d6 x7 d8 x9 x10 x11 x12 r X eT N hsz A_a4 g_a4 hr
  · rw [if_neg hc26] at hr
    refine o_icmpNo X hx (hb hby at_195) (c_flt hc26).1 (pc' := 198) rfl ?_
    refine o_iload X hx (hb hby at_198) rfl (pc' := 200) rfl ?_
    refine o_sipush X hx (hb hby at_200) (255 : Int32) rfl (pc' := 203) rfl ?_
    by_cases hc29 : (255 : Int32) < x11
    · rw [if_pos hc29] at hr
      refine o_icmpYes X hx (hb hby at_203) (c_tgt hc29).1 (pc' := 224) (by decide) (by decide) ?_
      exact b0_224 hx hZ hw hby hml hown hnm hret hlk a4 c_a4 d0 d1 x2 x3 x5 d6 x7 d8 x9 x10 x11 x12 r X eT N hsz A_a4 g_a4 hr
    · rw [if_neg hc29] at hr
      refine o_icmpNo X hx (hb hby at_203) (c_fgt hc29).1 (pc' := 206) rfl ?_
      exact b0_206 hx hZ hw hby hml hown hnm hret hlk a4 c_a4 d0 d1 x2 x3 x5 d6 x7 d8 x9 x10 x11 x12 r X eT N hsz A_a4 g_a4 hr
def f0_170 (c_a4 : (Nat → Int32)) (x2 : Int32) (x3 : Int64) (x5 : Int32) (x7 : Int32) (x9 : Int32) (x10 : Int32) (x11 : Int32) (x12 : Int32) : Option (Int32) := (if (255 : Int32) < x9 then (f0_224 c_a4 x2 x3 x5 x7 x9 x10 x11) else (if x7 < (2 : Int32) then (f0_192 c_a4 x2 x3 x5 x7 x9 x10 x11 x12) else (if (255 : Int32) < x10 then (f0_224 c_a4 x2 x3 x5 x7 x9 x10 x11) else (f0_192 c_a4 x2 x3 x5 x7 x9 x10 x11 x12))))
set_option maxRecDepth 65536 in
set_option maxHeartbeats 40000000 in
theorem b0_170 {p : Program} {l : Launch} {e : Env} {s : State} {m : MethodId} {args : Array Value} {below : List Frame} {meth : Method} {c : Code} {Z : State} {a0 : Array Value} {n0 : Nat} (hx : p.tables.exec = Jvm.exec) (hZ : Z.Warmed39 s.vm) (hw : ∀ d ∈ tables_1, d.before a0 Z = true) (hby : c.code = code) (hml : c.maxLocals = 25) (hown : s.vm.findClass "com/example/once_match/oncematch/PrefixRegisterStateAtEndPinLaw" = some m.cls) (hnm : meth.name = "law") (hret : meth.sig.returnType = some .boolean) (hlk : meth.locks = false)  {T : State} {locs : List Loc} {h : Heap} (a4 : Addr) (c_a4 : Nat → Int32) (d0 : Int32) (d1 : Int32) (x2 : Int32) (x3 : Int64) (x5 : Int32) (d6 : Int32) (x7 : Int32) (d8 : Int32) (x9 : Int32) (x10 : Int32) (x11 : Int32) (x12 : Int32) (r : Int32) (X : Stand p l e room_1 s m args below meth c T locs 1 1) (eT : T.heap = h) (N : Fr n0 locs) (hsz : n0 ≤ h.size) (A_a4 : OAr Z h a4 .char 1 (ci c_a4)) (g_a4 : n0 ≤ a4) (hr : f0_170 c_a4 x2 x3 x5 x7 x9 x10 x11 x12 = some r) :
    OG p e below s (fun v h L => v = (some (.int r)) ∧ Fr n0 L) 16 128 T (mkF m 170 #[.val (.int d0), .val (.int d1), .val (.int x2), .val (.long x3), .second, .val (.int x5), .val (.int d6), .val (.int x7), .val (.int d8), .val (.int x9), .val (.int x10), .val (.int x11), .val (.int x12), .val (.ref a4), .unset, .unset, .unset, .unset, .unset, .unset, .unset, .unset, .unset, .unset, .unset] []) := by
  have hr : (if (255 : Int32) < x9 then (f0_224 c_a4 x2 x3 x5 x7 x9 x10 x11) else (if x7 < (2 : Int32) then (f0_192 c_a4 x2 x3 x5 x7 x9 x10 x11 x12) else (if (255 : Int32) < x10 then (f0_224 c_a4 x2 x3 x5 x7 x9 x10 x11) else (f0_192 c_a4 x2 x3 x5 x7 x9 x10 x11 x12)))) = some r := hr
  refine o_iload X hx (hb hby at_170) rfl (pc' := 172) rfl ?_
  refine o_sipush X hx (hb hby at_172) (255 : Int32) rfl (pc' := 175) rfl ?_
  by_cases hc6 : (255 : Int32) < x9
  · rw [if_pos hc6] at hr
    refine o_icmpYes X hx (hb hby at_175) (c_tgt hc6).1 (pc' := 224) (by decide) (by decide) ?_
    exact b0_224 hx hZ hw hby hml hown hnm hret hlk a4 c_a4 d0 d1 x2 x3 x5 d6 x7 d8 x9 x10 x11 x12 r X eT N hsz A_a4 g_a4 hr
  · rw [if_neg hc6] at hr
    refine o_icmpNo X hx (hb hby at_175) (c_fgt hc6).1 (pc' := 178) rfl ?_
    refine o_iload X hx (hb hby at_178) rfl (pc' := 180) rfl ?_
    refine o_iconst X hx (hb hby at_180) (2 : Int32) rfl (pc' := 181) rfl ?_
    by_cases hc25 : x7 < (2 : Int32)
    · rw [if_pos hc25] at hr
      refine o_icmpYes X hx (hb hby at_181) (c_tlt hc25).1 (pc' := 192) (by decide) (by decide) ?_
      exact b0_192 hx hZ hw hby hml hown hnm hret hlk a4 c_a4 d0 d1 x2 x3 x5 d6 x7 d8 x9 x10 x11 x12 r X eT N hsz A_a4 g_a4 hr
    · rw [if_neg hc25] at hr
      refine o_icmpNo X hx (hb hby at_181) (c_flt hc25).1 (pc' := 184) rfl ?_
      refine o_iload X hx (hb hby at_184) rfl (pc' := 186) rfl ?_
      refine o_sipush X hx (hb hby at_186) (255 : Int32) rfl (pc' := 189) rfl ?_
      by_cases hc30 : (255 : Int32) < x10
      · rw [if_pos hc30] at hr
        refine o_icmpYes X hx (hb hby at_189) (c_tgt hc30).1 (pc' := 224) (by decide) (by decide) ?_
        exact b0_224 hx hZ hw hby hml hown hnm hret hlk a4 c_a4 d0 d1 x2 x3 x5 d6 x7 d8 x9 x10 x11 x12 r X eT N hsz A_a4 g_a4 hr
      · rw [if_neg hc30] at hr
        refine o_icmpNo X hx (hb hby at_189) (c_fgt hc30).1 (pc' := 192) rfl ?_
        exact b0_192 hx hZ hw hby hml hown hnm hret hlk a4 c_a4 d0 d1 x2 x3 x5 d6 x7 d8 x9 x10 x11 x12 r X eT N hsz A_a4 g_a4 hr
def f0_443a (c_a32 : (Nat → Int32)) (x20 : Int64) (x23 : Int32) : Option (Int32) := (Option.bind (f2_0 c_a32 2) (fun v46 => (Option.bind (f7_0 v46.2.1 v46.1 v46.2.2.2.2.1 v46.2.2.1 x20) (fun v47 => (if v47 = x23 then (some (1 : Int32)) else (some (0 : Int32)))))))
set_option maxRecDepth 65536 in
set_option maxHeartbeats 40000000 in
theorem b0_443a {p : Program} {l : Launch} {e : Env} {s : State} {m : MethodId} {args : Array Value} {below : List Frame} {meth : Method} {c : Code} {Z : State} {a0 : Array Value} {n0 : Nat} (hx : p.tables.exec = Jvm.exec) (hZ : Z.Warmed39 s.vm) (hw : ∀ d ∈ tables_1, d.before a0 Z = true) (hby : c.code = code) (hml : c.maxLocals = 25) (hown : s.vm.findClass "com/example/once_match/oncematch/PrefixRegisterStateAtEndPinLaw" = some m.cls) (hnm : meth.name = "law") (hret : meth.sig.returnType = some .boolean) (hlk : meth.locks = false)  {T : State} {locs : List Loc} {h : Heap} (a32 : Addr) (c_a32 : Nat → Int32) (d0 : Int32) (d1 : Int32) (d2 : Int32) (d3 : Int64) (d5 : Int32) (d6 : Int32) (d7 : Int32) (d8 : Int32) (d9 : Int32) (d10 : Int32) (d11 : Int32) (d12 : Int32) (d14 : Int32) (d15 : Int32) (d16 : Int32) (d17 : Int32) (d18 : Int32) (d19 : Int32) (x20 : Int64) (d22 : Int32) (x23 : Int32) (r : Int32) (X : Stand p l e room_1 s m args below meth c T locs 1 2) (eT : T.heap = h) (N : Fr n0 locs) (hsz : n0 ≤ h.size) (A_a32 : OAr Z h a32 .char 2 (ci c_a32)) (g_a32 : n0 ≤ a32) (hr : f0_443a c_a32 x20 x23 = some r) :
    OG p e below s (fun v h L => v = (some (.int r)) ∧ Fr n0 L) 16 128 T (mkF m 443 #[.val (.int d0), .val (.int d1), .val (.int d2), .val (.long d3), .second, .val (.int d5), .val (.int d6), .val (.int d7), .val (.int d8), .val (.int d9), .val (.int d10), .val (.int d11), .val (.int d12), .val (.ref a32), .val (.int d14), .val (.int d15), .val (.int d16), .val (.int d17), .val (.int d18), .val (.int d19), .val (.long x20), .second, .val (.int d22), .val (.int x23), .unset] []) := by
  have hr : (Option.bind (f2_0 c_a32 2) (fun v46 => (Option.bind (f7_0 v46.2.1 v46.1 v46.2.2.2.2.1 v46.2.2.1 x20) (fun v47 => (if v47 = x23 then (some (1 : Int32)) else (some (0 : Int32))))))) = some r := hr
  refine o_new X hx hZ hown eT (hw _ (List.mem_of_getElem? (i := 6) rfl)) (hw _ (List.mem_of_getElem? (i := 7) rfl)) (hw _ (List.mem_of_getElem? (i := 8) rfl)) (hb hby at_443) (pc' := 446) rfl (by decide) (by decide) ?_
  intro T45 h45 a45 X45 e45 q45 E45 A45 D45
  have g45 : n0 ≤ a45 := Nat.le_trans hsz (Nat.le_of_eq q45.symm)
  have ne_a32_a45 : a32 ≠ a45 := by rw [q45]; exact Nat.ne_of_lt (A_a32.lt)
  have A45_a32 := OAr.ext E45 A_a32
  have z45 : n0 ≤ h45.size := Nat.le_trans hsz E45.1
  have F45_lane : Fld Z h45 a45 "com/example/once_match/oncematch/PrefixRegister" "lane" "I" (.int (0 : Int32)) := D45 (Or.inr (hw _ (List.mem_of_getElem? (i := 20) rfl))) (ty := .int) (by decide)
  have F45_length : Fld Z h45 a45 "com/example/once_match/oncematch/PrefixRegister" "length" "I" (.int (0 : Int32)) := D45 (Or.inr (hw _ (List.mem_of_getElem? (i := 22) rfl))) (ty := .int) (by decide)
  have F45_entry : Fld Z h45 a45 "com/example/once_match/oncematch/PrefixRegister" "entry" "I" (.int (0 : Int32)) := D45 (Or.inr (hw _ (List.mem_of_getElem? (i := 24) rfl))) (ty := .int) (by decide)
  have F45_filler : Fld Z h45 a45 "com/example/once_match/oncematch/PrefixRegister" "filler" "I" (.int (0 : Int32)) := D45 (Or.inr (hw _ (List.mem_of_getElem? (i := 30) rfl))) (ty := .int) (by decide)
  have F45_prefix : Fld Z h45 a45 "com/example/once_match/oncematch/PrefixRegister" "prefix" "J" (.long (0 : Int64)) := D45 (Or.inr (hw _ (List.mem_of_getElem? (i := 36) rfl))) (ty := .long) (by decide)
  have F45_lasts : Fld Z h45 a45 "com/example/once_match/oncematch/PrefixRegister" "lasts" "J" (.long (0 : Int64)) := D45 (Or.inr (hw _ (List.mem_of_getElem? (i := 39) rfl))) (ty := .long) (by decide)
  have F45_before : Fld Z h45 a45 "com/example/once_match/oncematch/PrefixRegister" "before" "[J" .null := D45 (Or.inr (hw _ (List.mem_of_getElem? (i := 42) rfl))) (ty := (.array .long)) (by decide)
  refine o_dup X45 hx (hb hby at_446) rfl (pc' := 447) rfl ?_
  refine o_aload X45 hx (hb hby at_447) rfl rfl (pc' := 449) rfl ?_
  rcases hq46 : f2_0 c_a32 2 with _ | v46
  · rw [hq46] at hr; cases hr
  rw [hq46] at hr
  dsimp only [Option.bind] at hr
  refine o_special X45 hx hZ (argsL := [(.ref a32)]) (rest := [(.ref a45)]) (a := a45) 1 rfl hown e45 (hw _ (List.mem_of_getElem? (i := 9) rfl)) (hw _ (List.mem_of_getElem? (i := 10) rfl)) (hw _ (List.mem_of_getElem? (i := 8) rfl)) (hw _ (List.mem_of_getElem? (i := 11) rfl)) (by decide) (rm2 l Z a0 hw [] a45 a32 (.int (0 : Int32)) (.int (0 : Int32)) (.int (0 : Int32)) (.int (0 : Int32)) (.long (0 : Int64)) (.long (0 : Int64)) .null c_a32 2 h45 n0 z45 A45 F45_lane F45_length F45_entry F45_filler F45_prefix F45_lasts F45_before g45 A45_a32 g_a32 (Ne.symm ne_a32_a45) v46 hq46) (by decide) (by decide) (by rw [hml]; rfl) (lenOf pd_4 rfl) rfl (Nat.le_refl _) (hb hby at_449) (pc' := 452) rfl (by decide) (by decide) ?_
  rintro _ T46 L46 X46 ⟨rfl, N46, K46, B46, F46_lane, F46_length, F46_entry, F46_filler, F46_prefix, F46_lasts⟩
  replace X46 : Stand p l e room_1 s m args below meth c T46 (locs ++ L46) 3 13 := X46
  have M46 := Fr.app N N46
  dsimp only [Option.toList, List.cons_append, List.nil_append]
  have A46_a32 := OAr.keep A45_a32 K46 (by simp [ne_a32_a45])
  have A46_a45 := Exa.keep A45 K46
  have z46 : n0 ≤ T46.heap.size := Nat.le_trans z45 K46.1
  refine o_astore X46 hx (hb hby at_452) rfl #[.val (.int d0), .val (.int d1), .val (.int d2), .val (.long d3), .second, .val (.int d5), .val (.int d6), .val (.int d7), .val (.int d8), .val (.int d9), .val (.int d10), .val (.int d11), .val (.int d12), .val (.ref a32), .val (.int d14), .val (.int d15), .val (.int d16), .val (.int d17), .val (.int d18), .val (.int d19), .val (.long x20), .second, .val (.int d22), .val (.int x23), .val (.ref a45)] rfl (pc' := 454) rfl ?_
  refine o_aload X46 hx (hb hby at_454) rfl rfl (pc' := 456) rfl ?_
  refine o_lload X46 hx (hb hby at_456) rfl (pc' := 458) rfl ?_
  rcases hq47 : f7_0 v46.2.1 v46.1 v46.2.2.2.2.1 v46.2.2.1 x20 with _ | v47
  · rw [hq47] at hr; cases hr
  rw [hq47] at hr
  dsimp only [Option.bind] at hr
  refine o_virtual X46 hx hZ (argsL := [(.long x20)]) (rest := []) (a := a45) 0 hown (rfl : T46.heap = T46.heap) (hw _ (List.mem_of_getElem? (i := 43) rfl)) (hw _ (List.mem_of_getElem? (i := 44) rfl)) (hw _ (List.mem_of_getElem? (i := 46) rfl)) (hw _ (List.mem_of_getElem? (i := 45) rfl)) (hw _ (List.mem_of_getElem? (i := 8) rfl)) (hw _ (List.mem_of_getElem? (i := 47) rfl)) (by decide) B46 (rm7 l Z a0 hw [] a45 x20 v46.2.1 v46.1 v46.2.2.2.2.1 v46.2.2.1 T46.heap n0 z46 B46 F46_length F46_lane F46_prefix F46_entry v47 hq47) (by decide) (by decide) (by rw [hml]; rfl) (lenOf pd_5 rfl) rfl (Nat.le_refl _) (hb hby at_458) (pc' := 461) rfl (by decide) (by decide) ?_
  rintro _ T47 L47 X47 ⟨rfl, N47, e47⟩
  replace X47 : Stand p l e room_1 s m args below meth c T47 ((locs ++ L46) ++ L47) 3 13 := X47
  have M47 := Fr.app M46 N47
  dsimp only [Option.toList, List.cons_append, List.nil_append]
  refine o_iload X47 hx (hb hby at_461) rfl (pc' := 463) rfl ?_
  by_cases hc48 : v47 = x23
  · rw [if_pos hc48] at hr
    refine o_icmpNo X47 hx (hb hby at_463) (c_teq hc48).2 (pc' := 466) rfl ?_
    refine o_iconst X47 hx (hb hby at_466) (1 : Int32) rfl (pc' := 467) rfl ?_
    refine o_goto X47 hx (hb hby at_467) (pc' := 471) (by decide) (by decide) ?_
    obtain rfl : (1 : Int32) = r := Option.some.inj hr
    exact o_retN X47 hx hlk (t := .boolean) (by simp) hret (hb hby at_471) rfl ⟨rfl, M47⟩ (by decide) (by decide)
  · rw [if_neg hc48] at hr
    refine o_icmpYes X47 hx (hb hby at_463) (c_feq hc48).2 (pc' := 470) (by decide) (by decide) ?_
    refine o_iconst X47 hx (hb hby at_470) (0 : Int32) rfl (pc' := 471) rfl ?_
    obtain rfl : (0 : Int32) = r := Option.some.inj hr
    exact o_retN X47 hx hlk (t := .boolean) (by simp) hret (hb hby at_471) rfl ⟨rfl, M47⟩ (by decide) (by decide)
def f0_440a (c_a32 : (Nat → Int32)) (x20 : Int64) : Option (Int32) := (f0_443a c_a32 x20 (0 : Int32))
set_option maxRecDepth 65536 in
set_option maxHeartbeats 40000000 in
theorem b0_440a {p : Program} {l : Launch} {e : Env} {s : State} {m : MethodId} {args : Array Value} {below : List Frame} {meth : Method} {c : Code} {Z : State} {a0 : Array Value} {n0 : Nat} (hx : p.tables.exec = Jvm.exec) (hZ : Z.Warmed39 s.vm) (hw : ∀ d ∈ tables_1, d.before a0 Z = true) (hby : c.code = code) (hml : c.maxLocals = 25) (hown : s.vm.findClass "com/example/once_match/oncematch/PrefixRegisterStateAtEndPinLaw" = some m.cls) (hnm : meth.name = "law") (hret : meth.sig.returnType = some .boolean) (hlk : meth.locks = false)  {T : State} {locs : List Loc} {h : Heap} (a32 : Addr) (c_a32 : Nat → Int32) (d0 : Int32) (d1 : Int32) (d2 : Int32) (d3 : Int64) (d5 : Int32) (d6 : Int32) (d7 : Int32) (d8 : Int32) (d9 : Int32) (d10 : Int32) (d11 : Int32) (d12 : Int32) (d14 : Int32) (d15 : Int32) (d16 : Int32) (d17 : Int32) (d18 : Int32) (d19 : Int32) (x20 : Int64) (d22 : Int32) (r : Int32) (X : Stand p l e room_1 s m args below meth c T locs 1 2) (eT : T.heap = h) (N : Fr n0 locs) (hsz : n0 ≤ h.size) (A_a32 : OAr Z h a32 .char 2 (ci c_a32)) (g_a32 : n0 ≤ a32) (hr : f0_440a c_a32 x20 = some r) :
    OG p e below s (fun v h L => v = (some (.int r)) ∧ Fr n0 L) 16 128 T (mkF m 440 #[.val (.int d0), .val (.int d1), .val (.int d2), .val (.long d3), .second, .val (.int d5), .val (.int d6), .val (.int d7), .val (.int d8), .val (.int d9), .val (.int d10), .val (.int d11), .val (.int d12), .val (.ref a32), .val (.int d14), .val (.int d15), .val (.int d16), .val (.int d17), .val (.int d18), .val (.int d19), .val (.long x20), .second, .val (.int d22), .unset, .unset] []) := by
  have hr : (f0_443a c_a32 x20 (0 : Int32)) = some r := hr
  refine o_iconst X hx (hb hby at_440) (0 : Int32) rfl (pc' := 441) rfl ?_
  refine o_istore X hx (hb hby at_441) #[.val (.int d0), .val (.int d1), .val (.int d2), .val (.long d3), .second, .val (.int d5), .val (.int d6), .val (.int d7), .val (.int d8), .val (.int d9), .val (.int d10), .val (.int d11), .val (.int d12), .val (.ref a32), .val (.int d14), .val (.int d15), .val (.int d16), .val (.int d17), .val (.int d18), .val (.int d19), .val (.long x20), .second, .val (.int d22), .val (.int (0 : Int32)), .unset] rfl (pc' := 443) rfl ?_
  exact b0_443a hx hZ hw hby hml hown hnm hret hlk a32 c_a32 d0 d1 d2 d3 d5 d6 d7 d8 d9 d10 d11 d12 d14 d15 d16 d17 d18 d19 x20 d22 (0 : Int32) r X eT N hsz A_a32 g_a32 hr
def f0_421a (c_a32 : (Nat → Int32)) (x9 : Int32) (x17 : Int32) (x20 : Int64) (x22 : Int32) : Option (Int32) := (if (1 : Int32) < x22 then (if x17 = x9 then (f0_443a c_a32 x20 (1 : Int32)) else (f0_440a c_a32 x20)) else (f0_440a c_a32 x20))
set_option maxRecDepth 65536 in
set_option maxHeartbeats 40000000 in
theorem b0_421a {p : Program} {l : Launch} {e : Env} {s : State} {m : MethodId} {args : Array Value} {below : List Frame} {meth : Method} {c : Code} {Z : State} {a0 : Array Value} {n0 : Nat} (hx : p.tables.exec = Jvm.exec) (hZ : Z.Warmed39 s.vm) (hw : ∀ d ∈ tables_1, d.before a0 Z = true) (hby : c.code = code) (hml : c.maxLocals = 25) (hown : s.vm.findClass "com/example/once_match/oncematch/PrefixRegisterStateAtEndPinLaw" = some m.cls) (hnm : meth.name = "law") (hret : meth.sig.returnType = some .boolean) (hlk : meth.locks = false)  {T : State} {locs : List Loc} {h : Heap} (a32 : Addr) (c_a32 : Nat → Int32) (d0 : Int32) (d1 : Int32) (d2 : Int32) (d3 : Int64) (d5 : Int32) (d6 : Int32) (d7 : Int32) (d8 : Int32) (x9 : Int32) (d10 : Int32) (d11 : Int32) (d12 : Int32) (d14 : Int32) (d15 : Int32) (d16 : Int32) (x17 : Int32) (d18 : Int32) (d19 : Int32) (x20 : Int64) (x22 : Int32) (r : Int32) (X : Stand p l e room_1 s m args below meth c T locs 1 2) (eT : T.heap = h) (N : Fr n0 locs) (hsz : n0 ≤ h.size) (A_a32 : OAr Z h a32 .char 2 (ci c_a32)) (g_a32 : n0 ≤ a32) (hr : f0_421a c_a32 x9 x17 x20 x22 = some r) :
    OG p e below s (fun v h L => v = (some (.int r)) ∧ Fr n0 L) 16 128 T (mkF m 421 #[.val (.int d0), .val (.int d1), .val (.int d2), .val (.long d3), .second, .val (.int d5), .val (.int d6), .val (.int d7), .val (.int d8), .val (.int x9), .val (.int d10), .val (.int d11), .val (.int d12), .val (.ref a32), .val (.int d14), .val (.int d15), .val (.int d16), .val (.int x17), .val (.int d18), .val (.int d19), .val (.long x20), .second, .val (.int x22), .unset, .unset] []) := by
  have hr : (if (1 : Int32) < x22 then (if x17 = x9 then (f0_443a c_a32 x20 (1 : Int32)) else (f0_440a c_a32 x20)) else (f0_440a c_a32 x20)) = some r := hr
  refine o_iload X hx (hb hby at_421) rfl (pc' := 423) rfl ?_
  refine o_iconst X hx (hb hby at_423) (1 : Int32) rfl (pc' := 424) rfl ?_
  by_cases hc52 : (1 : Int32) < x22
  · rw [if_pos hc52] at hr
    refine o_icmpNo X hx (hb hby at_424) (c_tgt hc52).2 (pc' := 427) rfl ?_
    refine o_iload X hx (hb hby at_427) rfl (pc' := 429) rfl ?_
    refine o_iload X hx (hb hby at_429) rfl (pc' := 431) rfl ?_
    by_cases hc53 : x17 = x9
    · rw [if_pos hc53] at hr
      refine o_icmpNo X hx (hb hby at_431) (c_teq hc53).2 (pc' := 434) rfl ?_
      refine o_iconst X hx (hb hby at_434) (1 : Int32) rfl (pc' := 435) rfl ?_
      refine o_istore X hx (hb hby at_435) #[.val (.int d0), .val (.int d1), .val (.int d2), .val (.long d3), .second, .val (.int d5), .val (.int d6), .val (.int d7), .val (.int d8), .val (.int x9), .val (.int d10), .val (.int d11), .val (.int d12), .val (.ref a32), .val (.int d14), .val (.int d15), .val (.int d16), .val (.int x17), .val (.int d18), .val (.int d19), .val (.long x20), .second, .val (.int x22), .val (.int (1 : Int32)), .unset] rfl (pc' := 437) rfl ?_
      refine o_goto X hx (hb hby at_437) (pc' := 443) (by decide) (by decide) ?_
      exact b0_443a hx hZ hw hby hml hown hnm hret hlk a32 c_a32 d0 d1 d2 d3 d5 d6 d7 d8 x9 d10 d11 d12 d14 d15 d16 x17 d18 d19 x20 x22 (1 : Int32) r X eT N hsz A_a32 g_a32 hr
    · rw [if_neg hc53] at hr
      refine o_icmpYes X hx (hb hby at_431) (c_feq hc53).2 (pc' := 440) (by decide) (by decide) ?_
      exact b0_440a hx hZ hw hby hml hown hnm hret hlk a32 c_a32 d0 d1 d2 d3 d5 d6 d7 d8 x9 d10 d11 d12 d14 d15 d16 x17 d18 d19 x20 x22 r X eT N hsz A_a32 g_a32 hr
  · rw [if_neg hc52] at hr
    refine o_icmpYes X hx (hb hby at_424) (c_fgt hc52).2 (pc' := 440) (by decide) (by decide) ?_
    exact b0_440a hx hZ hw hby hml hown hnm hret hlk a32 c_a32 d0 d1 d2 d3 d5 d6 d7 d8 x9 d10 d11 d12 d14 d15 d16 x17 d18 d19 x20 x22 r X eT N hsz A_a32 g_a32 hr
def f0_395a (c_a32 : (Nat → Int32)) (x9 : Int32) (x10 : Int32) (x17 : Int32) (x18 : Int32) (x20 : Int64) (x22 : Int32) : Option (Int32) := (if (2 : Int32) < x22 then (if x18 = x9 then (if x17 = x10 then (f0_443a c_a32 x20 (2 : Int32)) else (f0_421a c_a32 x9 x17 x20 x22)) else (f0_421a c_a32 x9 x17 x20 x22)) else (f0_421a c_a32 x9 x17 x20 x22))
set_option maxRecDepth 65536 in
set_option maxHeartbeats 40000000 in
theorem b0_395a {p : Program} {l : Launch} {e : Env} {s : State} {m : MethodId} {args : Array Value} {below : List Frame} {meth : Method} {c : Code} {Z : State} {a0 : Array Value} {n0 : Nat} (hx : p.tables.exec = Jvm.exec) (hZ : Z.Warmed39 s.vm) (hw : ∀ d ∈ tables_1, d.before a0 Z = true) (hby : c.code = code) (hml : c.maxLocals = 25) (hown : s.vm.findClass "com/example/once_match/oncematch/PrefixRegisterStateAtEndPinLaw" = some m.cls) (hnm : meth.name = "law") (hret : meth.sig.returnType = some .boolean) (hlk : meth.locks = false)  {T : State} {locs : List Loc} {h : Heap} (a32 : Addr) (c_a32 : Nat → Int32) (d0 : Int32) (d1 : Int32) (d2 : Int32) (d3 : Int64) (d5 : Int32) (d6 : Int32) (d7 : Int32) (d8 : Int32) (x9 : Int32) (x10 : Int32) (d11 : Int32) (d12 : Int32) (d14 : Int32) (d15 : Int32) (d16 : Int32) (x17 : Int32) (x18 : Int32) (d19 : Int32) (x20 : Int64) (x22 : Int32) (r : Int32) (X : Stand p l e room_1 s m args below meth c T locs 1 2) (eT : T.heap = h) (N : Fr n0 locs) (hsz : n0 ≤ h.size) (A_a32 : OAr Z h a32 .char 2 (ci c_a32)) (g_a32 : n0 ≤ a32) (hr : f0_395a c_a32 x9 x10 x17 x18 x20 x22 = some r) :
    OG p e below s (fun v h L => v = (some (.int r)) ∧ Fr n0 L) 16 128 T (mkF m 395 #[.val (.int d0), .val (.int d1), .val (.int d2), .val (.long d3), .second, .val (.int d5), .val (.int d6), .val (.int d7), .val (.int d8), .val (.int x9), .val (.int x10), .val (.int d11), .val (.int d12), .val (.ref a32), .val (.int d14), .val (.int d15), .val (.int d16), .val (.int x17), .val (.int x18), .val (.int d19), .val (.long x20), .second, .val (.int x22), .unset, .unset] []) := by
  have hr : (if (2 : Int32) < x22 then (if x18 = x9 then (if x17 = x10 then (f0_443a c_a32 x20 (2 : Int32)) else (f0_421a c_a32 x9 x17 x20 x22)) else (f0_421a c_a32 x9 x17 x20 x22)) else (f0_421a c_a32 x9 x17 x20 x22)) = some r := hr
  refine o_iload X hx (hb hby at_395) rfl (pc' := 397) rfl ?_
  refine o_iconst X hx (hb hby at_397) (2 : Int32) rfl (pc' := 398) rfl ?_
  by_cases hc49 : (2 : Int32) < x22
  · rw [if_pos hc49] at hr
    refine o_icmpNo X hx (hb hby at_398) (c_tgt hc49).2 (pc' := 401) rfl ?_
    refine o_iload X hx (hb hby at_401) rfl (pc' := 403) rfl ?_
    refine o_iload X hx (hb hby at_403) rfl (pc' := 405) rfl ?_
    by_cases hc50 : x18 = x9
    · rw [if_pos hc50] at hr
      refine o_icmpNo X hx (hb hby at_405) (c_teq hc50).2 (pc' := 408) rfl ?_
      refine o_iload X hx (hb hby at_408) rfl (pc' := 410) rfl ?_
      refine o_iload X hx (hb hby at_410) rfl (pc' := 412) rfl ?_
      by_cases hc51 : x17 = x10
      · rw [if_pos hc51] at hr
        refine o_icmpNo X hx (hb hby at_412) (c_teq hc51).2 (pc' := 415) rfl ?_
        refine o_iconst X hx (hb hby at_415) (2 : Int32) rfl (pc' := 416) rfl ?_
        refine o_istore X hx (hb hby at_416) #[.val (.int d0), .val (.int d1), .val (.int d2), .val (.long d3), .second, .val (.int d5), .val (.int d6), .val (.int d7), .val (.int d8), .val (.int x9), .val (.int x10), .val (.int d11), .val (.int d12), .val (.ref a32), .val (.int d14), .val (.int d15), .val (.int d16), .val (.int x17), .val (.int x18), .val (.int d19), .val (.long x20), .second, .val (.int x22), .val (.int (2 : Int32)), .unset] rfl (pc' := 418) rfl ?_
        refine o_goto X hx (hb hby at_418) (pc' := 443) (by decide) (by decide) ?_
        exact b0_443a hx hZ hw hby hml hown hnm hret hlk a32 c_a32 d0 d1 d2 d3 d5 d6 d7 d8 x9 x10 d11 d12 d14 d15 d16 x17 x18 d19 x20 x22 (2 : Int32) r X eT N hsz A_a32 g_a32 hr
      · rw [if_neg hc51] at hr
        refine o_icmpYes X hx (hb hby at_412) (c_feq hc51).2 (pc' := 421) (by decide) (by decide) ?_
        exact b0_421a hx hZ hw hby hml hown hnm hret hlk a32 c_a32 d0 d1 d2 d3 d5 d6 d7 d8 x9 x10 d11 d12 d14 d15 d16 x17 x18 d19 x20 x22 r X eT N hsz A_a32 g_a32 hr
    · rw [if_neg hc50] at hr
      refine o_icmpYes X hx (hb hby at_405) (c_feq hc50).2 (pc' := 421) (by decide) (by decide) ?_
      exact b0_421a hx hZ hw hby hml hown hnm hret hlk a32 c_a32 d0 d1 d2 d3 d5 d6 d7 d8 x9 x10 d11 d12 d14 d15 d16 x17 x18 d19 x20 x22 r X eT N hsz A_a32 g_a32 hr
  · rw [if_neg hc49] at hr
    refine o_icmpYes X hx (hb hby at_398) (c_fgt hc49).2 (pc' := 421) (by decide) (by decide) ?_
    exact b0_421a hx hZ hw hby hml hown hnm hret hlk a32 c_a32 d0 d1 d2 d3 d5 d6 d7 d8 x9 x10 d11 d12 d14 d15 d16 x17 x18 d19 x20 x22 r X eT N hsz A_a32 g_a32 hr
def f0_358a (c_a32 : (Nat → Int32)) (x7 : Int32) (x9 : Int32) (x10 : Int32) (x11 : Int32) (x17 : Int32) (x18 : Int32) (x19 : Int32) (x20 : Int64) : Option (Int32) := (if (3 : Int32) < x7 then (if x19 = x9 then (if x18 = x10 then (if x17 = x11 then (f0_443a c_a32 x20 (3 : Int32)) else (f0_395a c_a32 x9 x10 x17 x18 x20 x7)) else (f0_395a c_a32 x9 x10 x17 x18 x20 x7)) else (f0_395a c_a32 x9 x10 x17 x18 x20 x7)) else (f0_395a c_a32 x9 x10 x17 x18 x20 x7))
set_option maxRecDepth 65536 in
set_option maxHeartbeats 40000000 in
theorem b0_358a {p : Program} {l : Launch} {e : Env} {s : State} {m : MethodId} {args : Array Value} {below : List Frame} {meth : Method} {c : Code} {Z : State} {a0 : Array Value} {n0 : Nat} (hx : p.tables.exec = Jvm.exec) (hZ : Z.Warmed39 s.vm) (hw : ∀ d ∈ tables_1, d.before a0 Z = true) (hby : c.code = code) (hml : c.maxLocals = 25) (hown : s.vm.findClass "com/example/once_match/oncematch/PrefixRegisterStateAtEndPinLaw" = some m.cls) (hnm : meth.name = "law") (hret : meth.sig.returnType = some .boolean) (hlk : meth.locks = false)  {T : State} {locs : List Loc} {h : Heap} (a32 : Addr) (c_a32 : Nat → Int32) (d0 : Int32) (d1 : Int32) (d2 : Int32) (d3 : Int64) (d5 : Int32) (d6 : Int32) (x7 : Int32) (d8 : Int32) (x9 : Int32) (x10 : Int32) (x11 : Int32) (d12 : Int32) (d14 : Int32) (d15 : Int32) (d16 : Int32) (x17 : Int32) (x18 : Int32) (x19 : Int32) (x20 : Int64) (r : Int32) (X : Stand p l e room_1 s m args below meth c T locs 1 2) (eT : T.heap = h) (N : Fr n0 locs) (hsz : n0 ≤ h.size) (A_a32 : OAr Z h a32 .char 2 (ci c_a32)) (g_a32 : n0 ≤ a32) (hr : f0_358a c_a32 x7 x9 x10 x11 x17 x18 x19 x20 = some r) :
    OG p e below s (fun v h L => v = (some (.int r)) ∧ Fr n0 L) 16 128 T (mkF m 358 #[.val (.int d0), .val (.int d1), .val (.int d2), .val (.long d3), .second, .val (.int d5), .val (.int d6), .val (.int x7), .val (.int d8), .val (.int x9), .val (.int x10), .val (.int x11), .val (.int d12), .val (.ref a32), .val (.int d14), .val (.int d15), .val (.int d16), .val (.int x17), .val (.int x18), .val (.int x19), .val (.long x20), .second, .unset, .unset, .unset] []) := by
  have hr : (if (3 : Int32) < x7 then (if x19 = x9 then (if x18 = x10 then (if x17 = x11 then (f0_443a c_a32 x20 (3 : Int32)) else (f0_395a c_a32 x9 x10 x17 x18 x20 x7)) else (f0_395a c_a32 x9 x10 x17 x18 x20 x7)) else (f0_395a c_a32 x9 x10 x17 x18 x20 x7)) else (f0_395a c_a32 x9 x10 x17 x18 x20 x7)) = some r := hr
  refine o_iload X hx (hb hby at_358) rfl (pc' := 360) rfl ?_
  refine o_istore X hx (hb hby at_360) #[.val (.int d0), .val (.int d1), .val (.int d2), .val (.long d3), .second, .val (.int d5), .val (.int d6), .val (.int x7), .val (.int d8), .val (.int x9), .val (.int x10), .val (.int x11), .val (.int d12), .val (.ref a32), .val (.int d14), .val (.int d15), .val (.int d16), .val (.int x17), .val (.int x18), .val (.int x19), .val (.long x20), .second, .val (.int x7), .unset, .unset] rfl (pc' := 362) rfl ?_
  refine o_iload X hx (hb hby at_362) rfl (pc' := 364) rfl ?_
  refine o_iconst X hx (hb hby at_364) (3 : Int32) rfl (pc' := 365) rfl ?_
  by_cases hc41 : (3 : Int32) < x7
  · rw [if_pos hc41] at hr
    refine o_icmpNo X hx (hb hby at_365) (c_tgt hc41).2 (pc' := 368) rfl ?_
    refine o_iload X hx (hb hby at_368) rfl (pc' := 370) rfl ?_
    refine o_iload X hx (hb hby at_370) rfl (pc' := 372) rfl ?_
    by_cases hc42 : x19 = x9
    · rw [if_pos hc42] at hr
      refine o_icmpNo X hx (hb hby at_372) (c_teq hc42).2 (pc' := 375) rfl ?_
      refine o_iload X hx (hb hby at_375) rfl (pc' := 377) rfl ?_
      refine o_iload X hx (hb hby at_377) rfl (pc' := 379) rfl ?_
      by_cases hc43 : x18 = x10
      · rw [if_pos hc43] at hr
        refine o_icmpNo X hx (hb hby at_379) (c_teq hc43).2 (pc' := 382) rfl ?_
        refine o_iload X hx (hb hby at_382) rfl (pc' := 384) rfl ?_
        refine o_iload X hx (hb hby at_384) rfl (pc' := 386) rfl ?_
        by_cases hc44 : x17 = x11
        · rw [if_pos hc44] at hr
          refine o_icmpNo X hx (hb hby at_386) (c_teq hc44).2 (pc' := 389) rfl ?_
          refine o_iconst X hx (hb hby at_389) (3 : Int32) rfl (pc' := 390) rfl ?_
          refine o_istore X hx (hb hby at_390) #[.val (.int d0), .val (.int d1), .val (.int d2), .val (.long d3), .second, .val (.int d5), .val (.int d6), .val (.int x7), .val (.int d8), .val (.int x9), .val (.int x10), .val (.int x11), .val (.int d12), .val (.ref a32), .val (.int d14), .val (.int d15), .val (.int d16), .val (.int x17), .val (.int x18), .val (.int x19), .val (.long x20), .second, .val (.int x7), .val (.int (3 : Int32)), .unset] rfl (pc' := 392) rfl ?_
          refine o_goto X hx (hb hby at_392) (pc' := 443) (by decide) (by decide) ?_
          exact b0_443a hx hZ hw hby hml hown hnm hret hlk a32 c_a32 d0 d1 d2 d3 d5 d6 x7 d8 x9 x10 x11 d12 d14 d15 d16 x17 x18 x19 x20 x7 (3 : Int32) r X eT N hsz A_a32 g_a32 hr
        · rw [if_neg hc44] at hr
          refine o_icmpYes X hx (hb hby at_386) (c_feq hc44).2 (pc' := 395) (by decide) (by decide) ?_
          exact b0_395a hx hZ hw hby hml hown hnm hret hlk a32 c_a32 d0 d1 d2 d3 d5 d6 x7 d8 x9 x10 x11 d12 d14 d15 d16 x17 x18 x19 x20 x7 r X eT N hsz A_a32 g_a32 hr
      · rw [if_neg hc43] at hr
        refine o_icmpYes X hx (hb hby at_379) (c_feq hc43).2 (pc' := 395) (by decide) (by decide) ?_
        exact b0_395a hx hZ hw hby hml hown hnm hret hlk a32 c_a32 d0 d1 d2 d3 d5 d6 x7 d8 x9 x10 x11 d12 d14 d15 d16 x17 x18 x19 x20 x7 r X eT N hsz A_a32 g_a32 hr
    · rw [if_neg hc42] at hr
      refine o_icmpYes X hx (hb hby at_372) (c_feq hc42).2 (pc' := 395) (by decide) (by decide) ?_
      exact b0_395a hx hZ hw hby hml hown hnm hret hlk a32 c_a32 d0 d1 d2 d3 d5 d6 x7 d8 x9 x10 x11 d12 d14 d15 d16 x17 x18 x19 x20 x7 r X eT N hsz A_a32 g_a32 hr
  · rw [if_neg hc41] at hr
    refine o_icmpYes X hx (hb hby at_365) (c_fgt hc41).2 (pc' := 395) (by decide) (by decide) ?_
    exact b0_395a hx hZ hw hby hml hown hnm hret hlk a32 c_a32 d0 d1 d2 d3 d5 d6 x7 d8 x9 x10 x11 d12 d14 d15 d16 x17 x18 x19 x20 x7 r X eT N hsz A_a32 g_a32 hr
def f0_330a (c_a32 : (Nat → Int32)) (x3 : Int64) (x7 : Int32) (x9 : Int32) (x10 : Int32) (x11 : Int32) (x15 : Int32) (x17 : Int32) (x18 : Int32) (x19 : Int32) : Option (Int32) := (f0_358a c_a32 x7 x9 x10 x11 x17 x18 x19 ((((x3 <<< (((3 : Int32) * x15) &&& 0x3f).toInt64) ||| ((x19.toInt64) <<< (((2 : Int32) * x15) &&& 0x3f).toInt64)) ||| ((x18.toInt64) <<< (x15 &&& 0x3f).toInt64)) ||| (x17.toInt64)))
set_option maxRecDepth 65536 in
set_option maxHeartbeats 40000000 in
theorem b0_330a {p : Program} {l : Launch} {e : Env} {s : State} {m : MethodId} {args : Array Value} {below : List Frame} {meth : Method} {c : Code} {Z : State} {a0 : Array Value} {n0 : Nat} (hx : p.tables.exec = Jvm.exec) (hZ : Z.Warmed39 s.vm) (hw : ∀ d ∈ tables_1, d.before a0 Z = true) (hby : c.code = code) (hml : c.maxLocals = 25) (hown : s.vm.findClass "com/example/once_match/oncematch/PrefixRegisterStateAtEndPinLaw" = some m.cls) (hnm : meth.name = "law") (hret : meth.sig.returnType = some .boolean) (hlk : meth.locks = false)  {T : State} {locs : List Loc} {h : Heap} (a32 : Addr) (c_a32 : Nat → Int32) (d0 : Int32) (d1 : Int32) (d2 : Int32) (x3 : Int64) (d5 : Int32) (d6 : Int32) (x7 : Int32) (d8 : Int32) (x9 : Int32) (x10 : Int32) (x11 : Int32) (d12 : Int32) (d14 : Int32) (x15 : Int32) (d16 : Int32) (x17 : Int32) (x18 : Int32) (x19 : Int32) (r : Int32) (X : Stand p l e room_1 s m args below meth c T locs 1 2) (eT : T.heap = h) (N : Fr n0 locs) (hsz : n0 ≤ h.size) (A_a32 : OAr Z h a32 .char 2 (ci c_a32)) (g_a32 : n0 ≤ a32) (hr : f0_330a c_a32 x3 x7 x9 x10 x11 x15 x17 x18 x19 = some r) :
    OG p e below s (fun v h L => v = (some (.int r)) ∧ Fr n0 L) 16 128 T (mkF m 330 #[.val (.int d0), .val (.int d1), .val (.int d2), .val (.long x3), .second, .val (.int d5), .val (.int d6), .val (.int x7), .val (.int d8), .val (.int x9), .val (.int x10), .val (.int x11), .val (.int d12), .val (.ref a32), .val (.int d14), .val (.int x15), .val (.int d16), .val (.int x17), .val (.int x18), .val (.int x19), .unset, .unset, .unset, .unset, .unset] []) := by
  have hr : (f0_358a c_a32 x7 x9 x10 x11 x17 x18 x19 ((((x3 <<< (((3 : Int32) * x15) &&& 0x3f).toInt64) ||| ((x19.toInt64) <<< (((2 : Int32) * x15) &&& 0x3f).toInt64)) ||| ((x18.toInt64) <<< (x15 &&& 0x3f).toInt64)) ||| (x17.toInt64))) = some r := hr
  refine o_lload_n X hx (hb hby at_330) rfl (pc' := 331) rfl ?_
  refine o_iconst X hx (hb hby at_331) (3 : Int32) rfl (pc' := 332) rfl ?_
  refine o_iload X hx (hb hby at_332) rfl (pc' := 334) rfl ?_
  refine o_imul X hx (hb hby at_334) (pc' := 335) rfl ?_
  refine o_lshl X hx (hb hby at_335) (pc' := 336) rfl ?_
  refine o_iload X hx (hb hby at_336) rfl (pc' := 338) rfl ?_
  refine o_i2l X hx (hb hby at_338) (pc' := 339) rfl ?_
  refine o_iconst X hx (hb hby at_339) (2 : Int32) rfl (pc' := 340) rfl ?_
  refine o_iload X hx (hb hby at_340) rfl (pc' := 342) rfl ?_
  refine o_imul X hx (hb hby at_342) (pc' := 343) rfl ?_
  refine o_lshl X hx (hb hby at_343) (pc' := 344) rfl ?_
  refine o_lor X hx (hb hby at_344) (pc' := 345) rfl ?_
  refine o_iload X hx (hb hby at_345) rfl (pc' := 347) rfl ?_
  refine o_i2l X hx (hb hby at_347) (pc' := 348) rfl ?_
  refine o_iload X hx (hb hby at_348) rfl (pc' := 350) rfl ?_
  refine o_lshl X hx (hb hby at_350) (pc' := 351) rfl ?_
  refine o_lor X hx (hb hby at_351) (pc' := 352) rfl ?_
  refine o_iload X hx (hb hby at_352) rfl (pc' := 354) rfl ?_
  refine o_i2l X hx (hb hby at_354) (pc' := 355) rfl ?_
  refine o_lor X hx (hb hby at_355) (pc' := 356) rfl ?_
  refine o_lstore X hx (hb hby at_356) #[.val (.int d0), .val (.int d1), .val (.int d2), .val (.long x3), .second, .val (.int d5), .val (.int d6), .val (.int x7), .val (.int d8), .val (.int x9), .val (.int x10), .val (.int x11), .val (.int d12), .val (.ref a32), .val (.int d14), .val (.int x15), .val (.int d16), .val (.int x17), .val (.int x18), .val (.int x19), .val (.long ((((x3 <<< (((3 : Int32) * x15) &&& 0x3f).toInt64) ||| ((x19.toInt64) <<< (((2 : Int32) * x15) &&& 0x3f).toInt64)) ||| ((x18.toInt64) <<< (x15 &&& 0x3f).toInt64)) ||| (x17.toInt64))), .second, .unset, .unset, .unset] rfl (pc' := 358) rfl ?_
  exact b0_358a hx hZ hw hby hml hown hnm hret hlk a32 c_a32 d0 d1 d2 x3 d5 d6 x7 d8 x9 x10 x11 d12 d14 x15 d16 x17 x18 x19 ((((x3 <<< (((3 : Int32) * x15) &&& 0x3f).toInt64) ||| ((x19.toInt64) <<< (((2 : Int32) * x15) &&& 0x3f).toInt64)) ||| ((x18.toInt64) <<< (x15 &&& 0x3f).toInt64)) ||| (x17.toInt64)) r X eT N hsz A_a32 g_a32 hr
def f0_304a (c_a32 : (Nat → Int32)) (x3 : Int64) (x5 : Int32) (x7 : Int32) (x9 : Int32) (x10 : Int32) (x11 : Int32) (x15 : Int32) (x16 : Int32) (x17 : Int32) (x18 : Int32) : Option (Int32) := (f0_330a c_a32 x3 x7 x9 x10 x11 x15 x17 x18 ((f1_0 (((x5.toUInt32 >>> ((7 : Int32) &&& 31).toUInt32).toInt32) &&& (3 : Int32)) x9 x10 x11 ((x5.toUInt32 >>> ((16 : Int32) &&& 31).toUInt32).toInt32)) &&& x16))
set_option maxRecDepth 65536 in
set_option maxHeartbeats 40000000 in
theorem b0_304a {p : Program} {l : Launch} {e : Env} {s : State} {m : MethodId} {args : Array Value} {below : List Frame} {meth : Method} {c : Code} {Z : State} {a0 : Array Value} {n0 : Nat} (hx : p.tables.exec = Jvm.exec) (hZ : Z.Warmed39 s.vm) (hw : ∀ d ∈ tables_1, d.before a0 Z = true) (hby : c.code = code) (hml : c.maxLocals = 25) (hown : s.vm.findClass "com/example/once_match/oncematch/PrefixRegisterStateAtEndPinLaw" = some m.cls) (hnm : meth.name = "law") (hret : meth.sig.returnType = some .boolean) (hlk : meth.locks = false)  {T : State} {locs : List Loc} {h : Heap} (a32 : Addr) (c_a32 : Nat → Int32) (d0 : Int32) (d1 : Int32) (d2 : Int32) (x3 : Int64) (x5 : Int32) (d6 : Int32) (x7 : Int32) (d8 : Int32) (x9 : Int32) (x10 : Int32) (x11 : Int32) (d12 : Int32) (d14 : Int32) (x15 : Int32) (x16 : Int32) (x17 : Int32) (x18 : Int32) (r : Int32) (X : Stand p l e room_1 s m args below meth c T locs 1 2) (eT : T.heap = h) (N : Fr n0 locs) (hsz : n0 ≤ h.size) (A_a32 : OAr Z h a32 .char 2 (ci c_a32)) (g_a32 : n0 ≤ a32) (hr : f0_304a c_a32 x3 x5 x7 x9 x10 x11 x15 x16 x17 x18 = some r) :
    OG p e below s (fun v h L => v = (some (.int r)) ∧ Fr n0 L) 16 128 T (mkF m 304 #[.val (.int d0), .val (.int d1), .val (.int d2), .val (.long x3), .second, .val (.int x5), .val (.int d6), .val (.int x7), .val (.int d8), .val (.int x9), .val (.int x10), .val (.int x11), .val (.int d12), .val (.ref a32), .val (.int d14), .val (.int x15), .val (.int x16), .val (.int x17), .val (.int x18), .unset, .unset, .unset, .unset, .unset, .unset] []) := by
  have hr : (f0_330a c_a32 x3 x7 x9 x10 x11 x15 x17 x18 ((f1_0 (((x5.toUInt32 >>> ((7 : Int32) &&& 31).toUInt32).toInt32) &&& (3 : Int32)) x9 x10 x11 ((x5.toUInt32 >>> ((16 : Int32) &&& 31).toUInt32).toInt32)) &&& x16)) = some r := hr
  refine o_iload X hx (hb hby at_304) rfl (pc' := 306) rfl ?_
  refine o_bipush X hx (hb hby at_306) (7 : Int32) rfl (pc' := 308) rfl ?_
  refine o_iushr X hx (hb hby at_308) (pc' := 309) rfl ?_
  refine o_iconst X hx (hb hby at_309) (3 : Int32) rfl (pc' := 310) rfl ?_
  refine o_iand X hx (hb hby at_310) (pc' := 311) rfl ?_
  refine o_iload X hx (hb hby at_311) rfl (pc' := 313) rfl ?_
  refine o_iload X hx (hb hby at_313) rfl (pc' := 315) rfl ?_
  refine o_iload X hx (hb hby at_315) rfl (pc' := 317) rfl ?_
  refine o_iload X hx (hb hby at_317) rfl (pc' := 319) rfl ?_
  refine o_bipush X hx (hb hby at_319) (16 : Int32) rfl (pc' := 321) rfl ?_
  refine o_iushr X hx (hb hby at_321) (pc' := 322) rfl ?_
  refine o_callS X hx hZ (argsL := [(.int (((x5.toUInt32 >>> ((7 : Int32) &&& 31).toUInt32).toInt32) &&& (3 : Int32))), (.int x9), (.int x10), (.int x11), (.int ((x5.toUInt32 >>> ((16 : Int32) &&& 31).toUInt32).toInt32))]) (rest := []) 0 hown eT (hw _ (List.mem_of_getElem? (i := 2) rfl)) (hw _ (List.mem_of_getElem? (i := 3) rfl)) (hw _ (List.mem_of_getElem? (i := 4) rfl)) (hw _ (List.mem_of_getElem? (i := 5) rfl)) (by decide) (rm1 l Z a0 hw [] (((x5.toUInt32 >>> ((7 : Int32) &&& 31).toUInt32).toInt32) &&& (3 : Int32)) x9 x10 x11 ((x5.toUInt32 >>> ((16 : Int32) &&& 31).toUInt32).toInt32) h n0 hsz (f1_0 (((x5.toUInt32 >>> ((7 : Int32) &&& 31).toUInt32).toInt32) &&& (3 : Int32)) x9 x10 x11 ((x5.toUInt32 >>> ((16 : Int32) &&& 31).toUInt32).toInt32)) rfl) (by decide) (by decide) (by rw [hml]; rfl) (lenOf pd_3 rfl) rfl (Nat.le_refl _) (hb hby at_322) (pc' := 325) rfl (by decide) (by decide) ?_
  rintro _ T40 L40 X40 ⟨rfl, N40, e40⟩
  replace X40 : Stand p l e room_1 s m args below meth c T40 (locs ++ L40) 1 2 := X40
  have M40 := Fr.app N N40
  dsimp only [Option.toList, List.cons_append, List.nil_append]
  refine o_iload X40 hx (hb hby at_325) rfl (pc' := 327) rfl ?_
  refine o_iand X40 hx (hb hby at_327) (pc' := 328) rfl ?_
  refine o_istore X40 hx (hb hby at_328) #[.val (.int d0), .val (.int d1), .val (.int d2), .val (.long x3), .second, .val (.int x5), .val (.int d6), .val (.int x7), .val (.int d8), .val (.int x9), .val (.int x10), .val (.int x11), .val (.int d12), .val (.ref a32), .val (.int d14), .val (.int x15), .val (.int x16), .val (.int x17), .val (.int x18), .val (.int ((f1_0 (((x5.toUInt32 >>> ((7 : Int32) &&& 31).toUInt32).toInt32) &&& (3 : Int32)) x9 x10 x11 ((x5.toUInt32 >>> ((16 : Int32) &&& 31).toUInt32).toInt32)) &&& x16)), .unset, .unset, .unset, .unset, .unset] rfl (pc' := 330) rfl ?_
  exact b0_330a hx hZ hw hby hml hown hnm hret hlk a32 c_a32 d0 d1 d2 x3 x5 d6 x7 d8 x9 x10 x11 d12 d14 x15 x16 x17 x18 ((f1_0 (((x5.toUInt32 >>> ((7 : Int32) &&& 31).toUInt32).toInt32) &&& (3 : Int32)) x9 x10 x11 ((x5.toUInt32 >>> ((16 : Int32) &&& 31).toUInt32).toInt32)) &&& x16) r X40 e40 M40 hsz A_a32 g_a32 hr
def f0_280a (c_a32 : (Nat → Int32)) (x2 : Int32) (x3 : Int64) (x5 : Int32) (x7 : Int32) (x9 : Int32) (x10 : Int32) (x11 : Int32) (x15 : Int32) (x16 : Int32) (x17 : Int32) : Option (Int32) := (f0_304a c_a32 x3 x5 x7 x9 x10 x11 x15 x16 x17 ((f1_0 (((x5.toUInt32 >>> ((5 : Int32) &&& 31).toUInt32).toInt32) &&& (3 : Int32)) x9 x10 x11 ((x2.toUInt32 >>> ((16 : Int32) &&& 31).toUInt32).toInt32)) &&& x16))
set_option maxRecDepth 65536 in
set_option maxHeartbeats 40000000 in
theorem b0_280a {p : Program} {l : Launch} {e : Env} {s : State} {m : MethodId} {args : Array Value} {below : List Frame} {meth : Method} {c : Code} {Z : State} {a0 : Array Value} {n0 : Nat} (hx : p.tables.exec = Jvm.exec) (hZ : Z.Warmed39 s.vm) (hw : ∀ d ∈ tables_1, d.before a0 Z = true) (hby : c.code = code) (hml : c.maxLocals = 25) (hown : s.vm.findClass "com/example/once_match/oncematch/PrefixRegisterStateAtEndPinLaw" = some m.cls) (hnm : meth.name = "law") (hret : meth.sig.returnType = some .boolean) (hlk : meth.locks = false)  {T : State} {locs : List Loc} {h : Heap} (a32 : Addr) (c_a32 : Nat → Int32) (d0 : Int32) (d1 : Int32) (x2 : Int32) (x3 : Int64) (x5 : Int32) (d6 : Int32) (x7 : Int32) (d8 : Int32) (x9 : Int32) (x10 : Int32) (x11 : Int32) (d12 : Int32) (d14 : Int32) (x15 : Int32) (x16 : Int32) (x17 : Int32) (r : Int32) (X : Stand p l e room_1 s m args below meth c T locs 1 2) (eT : T.heap = h) (N : Fr n0 locs) (hsz : n0 ≤ h.size) (A_a32 : OAr Z h a32 .char 2 (ci c_a32)) (g_a32 : n0 ≤ a32) (hr : f0_280a c_a32 x2 x3 x5 x7 x9 x10 x11 x15 x16 x17 = some r) :
    OG p e below s (fun v h L => v = (some (.int r)) ∧ Fr n0 L) 16 128 T (mkF m 280 #[.val (.int d0), .val (.int d1), .val (.int x2), .val (.long x3), .second, .val (.int x5), .val (.int d6), .val (.int x7), .val (.int d8), .val (.int x9), .val (.int x10), .val (.int x11), .val (.int d12), .val (.ref a32), .val (.int d14), .val (.int x15), .val (.int x16), .val (.int x17), .unset, .unset, .unset, .unset, .unset, .unset, .unset] []) := by
  have hr : (f0_304a c_a32 x3 x5 x7 x9 x10 x11 x15 x16 x17 ((f1_0 (((x5.toUInt32 >>> ((5 : Int32) &&& 31).toUInt32).toInt32) &&& (3 : Int32)) x9 x10 x11 ((x2.toUInt32 >>> ((16 : Int32) &&& 31).toUInt32).toInt32)) &&& x16)) = some r := hr
  refine o_iload X hx (hb hby at_280) rfl (pc' := 282) rfl ?_
  refine o_iconst X hx (hb hby at_282) (5 : Int32) rfl (pc' := 283) rfl ?_
  refine o_iushr X hx (hb hby at_283) (pc' := 284) rfl ?_
  refine o_iconst X hx (hb hby at_284) (3 : Int32) rfl (pc' := 285) rfl ?_
  refine o_iand X hx (hb hby at_285) (pc' := 286) rfl ?_
  refine o_iload X hx (hb hby at_286) rfl (pc' := 288) rfl ?_
  refine o_iload X hx (hb hby at_288) rfl (pc' := 290) rfl ?_
  refine o_iload X hx (hb hby at_290) rfl (pc' := 292) rfl ?_
  refine o_iload_n X hx (hb hby at_292) rfl (pc' := 293) rfl ?_
  refine o_bipush X hx (hb hby at_293) (16 : Int32) rfl (pc' := 295) rfl ?_
  refine o_iushr X hx (hb hby at_295) (pc' := 296) rfl ?_
  refine o_callS X hx hZ (argsL := [(.int (((x5.toUInt32 >>> ((5 : Int32) &&& 31).toUInt32).toInt32) &&& (3 : Int32))), (.int x9), (.int x10), (.int x11), (.int ((x2.toUInt32 >>> ((16 : Int32) &&& 31).toUInt32).toInt32))]) (rest := []) 0 hown eT (hw _ (List.mem_of_getElem? (i := 2) rfl)) (hw _ (List.mem_of_getElem? (i := 3) rfl)) (hw _ (List.mem_of_getElem? (i := 4) rfl)) (hw _ (List.mem_of_getElem? (i := 5) rfl)) (by decide) (rm1 l Z a0 hw [] (((x5.toUInt32 >>> ((5 : Int32) &&& 31).toUInt32).toInt32) &&& (3 : Int32)) x9 x10 x11 ((x2.toUInt32 >>> ((16 : Int32) &&& 31).toUInt32).toInt32) h n0 hsz (f1_0 (((x5.toUInt32 >>> ((5 : Int32) &&& 31).toUInt32).toInt32) &&& (3 : Int32)) x9 x10 x11 ((x2.toUInt32 >>> ((16 : Int32) &&& 31).toUInt32).toInt32)) rfl) (by decide) (by decide) (by rw [hml]; rfl) (lenOf pd_3 rfl) rfl (Nat.le_refl _) (hb hby at_296) (pc' := 299) rfl (by decide) (by decide) ?_
  rintro _ T39 L39 X39 ⟨rfl, N39, e39⟩
  replace X39 : Stand p l e room_1 s m args below meth c T39 (locs ++ L39) 1 2 := X39
  have M39 := Fr.app N N39
  dsimp only [Option.toList, List.cons_append, List.nil_append]
  refine o_iload X39 hx (hb hby at_299) rfl (pc' := 301) rfl ?_
  refine o_iand X39 hx (hb hby at_301) (pc' := 302) rfl ?_
  refine o_istore X39 hx (hb hby at_302) #[.val (.int d0), .val (.int d1), .val (.int x2), .val (.long x3), .second, .val (.int x5), .val (.int d6), .val (.int x7), .val (.int d8), .val (.int x9), .val (.int x10), .val (.int x11), .val (.int d12), .val (.ref a32), .val (.int d14), .val (.int x15), .val (.int x16), .val (.int x17), .val (.int ((f1_0 (((x5.toUInt32 >>> ((5 : Int32) &&& 31).toUInt32).toInt32) &&& (3 : Int32)) x9 x10 x11 ((x2.toUInt32 >>> ((16 : Int32) &&& 31).toUInt32).toInt32)) &&& x16)), .unset, .unset, .unset, .unset, .unset, .unset] rfl (pc' := 304) rfl ?_
  exact b0_304a hx hZ hw hby hml hown hnm hret hlk a32 c_a32 d0 d1 x2 x3 x5 d6 x7 d8 x9 x10 x11 d12 d14 x15 x16 x17 ((f1_0 (((x5.toUInt32 >>> ((5 : Int32) &&& 31).toUInt32).toInt32) &&& (3 : Int32)) x9 x10 x11 ((x2.toUInt32 >>> ((16 : Int32) &&& 31).toUInt32).toInt32)) &&& x16) r X39 e39 M39 hsz A_a32 g_a32 hr
def f0_254a (c_a32 : (Nat → Int32)) (x2 : Int32) (x3 : Int64) (x5 : Int32) (x7 : Int32) (x9 : Int32) (x10 : Int32) (x11 : Int32) (x15 : Int32) (t0 : Int32) : Option (Int32) := (f0_280a c_a32 x2 x3 x5 x7 x9 x10 x11 x15 t0 ((f1_0 (((x5.toUInt32 >>> ((3 : Int32) &&& 31).toUInt32).toInt32) &&& (3 : Int32)) x9 x10 x11 (x2 &&& (65535 : Int32))) &&& t0))
set_option maxRecDepth 65536 in
set_option maxHeartbeats 40000000 in
theorem b0_254a {p : Program} {l : Launch} {e : Env} {s : State} {m : MethodId} {args : Array Value} {below : List Frame} {meth : Method} {c : Code} {Z : State} {a0 : Array Value} {n0 : Nat} (hx : p.tables.exec = Jvm.exec) (hZ : Z.Warmed39 s.vm) (hw : ∀ d ∈ tables_1, d.before a0 Z = true) (hby : c.code = code) (hml : c.maxLocals = 25) (hown : s.vm.findClass "com/example/once_match/oncematch/PrefixRegisterStateAtEndPinLaw" = some m.cls) (hnm : meth.name = "law") (hret : meth.sig.returnType = some .boolean) (hlk : meth.locks = false)  {T : State} {locs : List Loc} {h : Heap} (a32 : Addr) (c_a32 : Nat → Int32) (d0 : Int32) (d1 : Int32) (x2 : Int32) (x3 : Int64) (x5 : Int32) (d6 : Int32) (x7 : Int32) (d8 : Int32) (x9 : Int32) (x10 : Int32) (x11 : Int32) (d12 : Int32) (d14 : Int32) (x15 : Int32) (t0 : Int32) (r : Int32) (X : Stand p l e room_1 s m args below meth c T locs 1 2) (eT : T.heap = h) (N : Fr n0 locs) (hsz : n0 ≤ h.size) (A_a32 : OAr Z h a32 .char 2 (ci c_a32)) (g_a32 : n0 ≤ a32) (hr : f0_254a c_a32 x2 x3 x5 x7 x9 x10 x11 x15 t0 = some r) :
    OG p e below s (fun v h L => v = (some (.int r)) ∧ Fr n0 L) 16 128 T (mkF m 254 #[.val (.int d0), .val (.int d1), .val (.int x2), .val (.long x3), .second, .val (.int x5), .val (.int d6), .val (.int x7), .val (.int d8), .val (.int x9), .val (.int x10), .val (.int x11), .val (.int d12), .val (.ref a32), .val (.int d14), .val (.int x15), .unset, .unset, .unset, .unset, .unset, .unset, .unset, .unset, .unset] [(.int t0)]) := by
  have hr : (f0_280a c_a32 x2 x3 x5 x7 x9 x10 x11 x15 t0 ((f1_0 (((x5.toUInt32 >>> ((3 : Int32) &&& 31).toUInt32).toInt32) &&& (3 : Int32)) x9 x10 x11 (x2 &&& (65535 : Int32))) &&& t0)) = some r := hr
  refine o_istore X hx (hb hby at_254) #[.val (.int d0), .val (.int d1), .val (.int x2), .val (.long x3), .second, .val (.int x5), .val (.int d6), .val (.int x7), .val (.int d8), .val (.int x9), .val (.int x10), .val (.int x11), .val (.int d12), .val (.ref a32), .val (.int d14), .val (.int x15), .val (.int t0), .unset, .unset, .unset, .unset, .unset, .unset, .unset, .unset] rfl (pc' := 256) rfl ?_
  refine o_iload X hx (hb hby at_256) rfl (pc' := 258) rfl ?_
  refine o_iconst X hx (hb hby at_258) (3 : Int32) rfl (pc' := 259) rfl ?_
  refine o_iushr X hx (hb hby at_259) (pc' := 260) rfl ?_
  refine o_iconst X hx (hb hby at_260) (3 : Int32) rfl (pc' := 261) rfl ?_
  refine o_iand X hx (hb hby at_261) (pc' := 262) rfl ?_
  refine o_iload X hx (hb hby at_262) rfl (pc' := 264) rfl ?_
  refine o_iload X hx (hb hby at_264) rfl (pc' := 266) rfl ?_
  refine o_iload X hx (hb hby at_266) rfl (pc' := 268) rfl ?_
  refine o_iload_n X hx (hb hby at_268) rfl (pc' := 269) rfl ?_
  refine o_ldcInt X hx hZ hown (hb hby at_269) (hw _ (List.mem_of_getElem? (i := 0) rfl)) (pc' := 271) rfl ?_
  refine o_iand X hx (hb hby at_271) (pc' := 272) rfl ?_
  refine o_callS X hx hZ (argsL := [(.int (((x5.toUInt32 >>> ((3 : Int32) &&& 31).toUInt32).toInt32) &&& (3 : Int32))), (.int x9), (.int x10), (.int x11), (.int (x2 &&& (65535 : Int32)))]) (rest := []) 0 hown eT (hw _ (List.mem_of_getElem? (i := 2) rfl)) (hw _ (List.mem_of_getElem? (i := 3) rfl)) (hw _ (List.mem_of_getElem? (i := 4) rfl)) (hw _ (List.mem_of_getElem? (i := 5) rfl)) (by decide) (rm1 l Z a0 hw [] (((x5.toUInt32 >>> ((3 : Int32) &&& 31).toUInt32).toInt32) &&& (3 : Int32)) x9 x10 x11 (x2 &&& (65535 : Int32)) h n0 hsz (f1_0 (((x5.toUInt32 >>> ((3 : Int32) &&& 31).toUInt32).toInt32) &&& (3 : Int32)) x9 x10 x11 (x2 &&& (65535 : Int32))) rfl) (by decide) (by decide) (by rw [hml]; rfl) (lenOf pd_3 rfl) rfl (Nat.le_refl _) (hb hby at_272) (pc' := 275) rfl (by decide) (by decide) ?_
  rintro _ T38 L38 X38 ⟨rfl, N38, e38⟩
  replace X38 : Stand p l e room_1 s m args below meth c T38 (locs ++ L38) 1 2 := X38
  have M38 := Fr.app N N38
  dsimp only [Option.toList, List.cons_append, List.nil_append]
  refine o_iload X38 hx (hb hby at_275) rfl (pc' := 277) rfl ?_
  refine o_iand X38 hx (hb hby at_277) (pc' := 278) rfl ?_
  refine o_istore X38 hx (hb hby at_278) #[.val (.int d0), .val (.int d1), .val (.int x2), .val (.long x3), .second, .val (.int x5), .val (.int d6), .val (.int x7), .val (.int d8), .val (.int x9), .val (.int x10), .val (.int x11), .val (.int d12), .val (.ref a32), .val (.int d14), .val (.int x15), .val (.int t0), .val (.int ((f1_0 (((x5.toUInt32 >>> ((3 : Int32) &&& 31).toUInt32).toInt32) &&& (3 : Int32)) x9 x10 x11 (x2 &&& (65535 : Int32))) &&& t0)), .unset, .unset, .unset, .unset, .unset, .unset, .unset] rfl (pc' := 280) rfl ?_
  exact b0_280a hx hZ hw hby hml hown hnm hret hlk a32 c_a32 d0 d1 x2 x3 x5 d6 x7 d8 x9 x10 x11 d12 d14 x15 t0 ((f1_0 (((x5.toUInt32 >>> ((3 : Int32) &&& 31).toUInt32).toInt32) &&& (3 : Int32)) x9 x10 x11 (x2 &&& (65535 : Int32))) &&& t0) r X38 e38 M38 hsz A_a32 g_a32 hr
def f0_239a (c_a32 : (Nat → Int32)) (x2 : Int32) (x3 : Int64) (x5 : Int32) (x7 : Int32) (x9 : Int32) (x10 : Int32) (x11 : Int32) (x14 : Int32) (t0 : Int32) : Option (Int32) := (if x14 = (0 : Int32) then (f0_254a c_a32 x2 x3 x5 x7 x9 x10 x11 t0 (65535 : Int32)) else (f0_254a c_a32 x2 x3 x5 x7 x9 x10 x11 t0 (255 : Int32)))
set_option maxRecDepth 65536 in
set_option maxHeartbeats 40000000 in
theorem b0_239a {p : Program} {l : Launch} {e : Env} {s : State} {m : MethodId} {args : Array Value} {below : List Frame} {meth : Method} {c : Code} {Z : State} {a0 : Array Value} {n0 : Nat} (hx : p.tables.exec = Jvm.exec) (hZ : Z.Warmed39 s.vm) (hw : ∀ d ∈ tables_1, d.before a0 Z = true) (hby : c.code = code) (hml : c.maxLocals = 25) (hown : s.vm.findClass "com/example/once_match/oncematch/PrefixRegisterStateAtEndPinLaw" = some m.cls) (hnm : meth.name = "law") (hret : meth.sig.returnType = some .boolean) (hlk : meth.locks = false)  {T : State} {locs : List Loc} {h : Heap} (a32 : Addr) (c_a32 : Nat → Int32) (d0 : Int32) (d1 : Int32) (x2 : Int32) (x3 : Int64) (x5 : Int32) (d6 : Int32) (x7 : Int32) (d8 : Int32) (x9 : Int32) (x10 : Int32) (x11 : Int32) (d12 : Int32) (x14 : Int32) (t0 : Int32) (r : Int32) (X : Stand p l e room_1 s m args below meth c T locs 1 2) (eT : T.heap = h) (N : Fr n0 locs) (hsz : n0 ≤ h.size) (A_a32 : OAr Z h a32 .char 2 (ci c_a32)) (g_a32 : n0 ≤ a32) (hr : f0_239a c_a32 x2 x3 x5 x7 x9 x10 x11 x14 t0 = some r) :
    OG p e below s (fun v h L => v = (some (.int r)) ∧ Fr n0 L) 16 128 T (mkF m 239 #[.val (.int d0), .val (.int d1), .val (.int x2), .val (.long x3), .second, .val (.int x5), .val (.int d6), .val (.int x7), .val (.int d8), .val (.int x9), .val (.int x10), .val (.int x11), .val (.int d12), .val (.ref a32), .val (.int x14), .unset, .unset, .unset, .unset, .unset, .unset, .unset, .unset, .unset, .unset] [(.int t0)]) := by
  have hr : (if x14 = (0 : Int32) then (f0_254a c_a32 x2 x3 x5 x7 x9 x10 x11 t0 (65535 : Int32)) else (f0_254a c_a32 x2 x3 x5 x7 x9 x10 x11 t0 (255 : Int32))) = some r := hr
  refine o_istore X hx (hb hby at_239) #[.val (.int d0), .val (.int d1), .val (.int x2), .val (.long x3), .second, .val (.int x5), .val (.int d6), .val (.int x7), .val (.int d8), .val (.int x9), .val (.int x10), .val (.int x11), .val (.int d12), .val (.ref a32), .val (.int x14), .val (.int t0), .unset, .unset, .unset, .unset, .unset, .unset, .unset, .unset, .unset] rfl (pc' := 241) rfl ?_
  refine o_iload X hx (hb hby at_241) rfl (pc' := 243) rfl ?_
  by_cases hc37 : x14 = (0 : Int32)
  · rw [if_pos hc37] at hr
    refine o_ifYes X hx (hb hby at_243) (z_teq hc37).1 (pc' := 252) (by decide) (by decide) ?_
    refine o_ldcInt X hx hZ hown (hb hby at_252) (hw _ (List.mem_of_getElem? (i := 0) rfl)) (pc' := 254) rfl ?_
    exact b0_254a hx hZ hw hby hml hown hnm hret hlk a32 c_a32 d0 d1 x2 x3 x5 d6 x7 d8 x9 x10 x11 d12 x14 t0 (65535 : Int32) r X eT N hsz A_a32 g_a32 hr
  · rw [if_neg hc37] at hr
    refine o_ifNo X hx (hb hby at_243) (z_feq hc37).1 (pc' := 246) rfl ?_
    refine o_sipush X hx (hb hby at_246) (255 : Int32) rfl (pc' := 249) rfl ?_
    refine o_goto X hx (hb hby at_249) (pc' := 254) (by decide) (by decide) ?_
    exact b0_254a hx hZ hw hby hml hown hnm hret hlk a32 c_a32 d0 d1 x2 x3 x5 d6 x7 d8 x9 x10 x11 d12 x14 t0 (255 : Int32) r X eT N hsz A_a32 g_a32 hr
def f0_225a (c_a32 : (Nat → Int32)) (x2 : Int32) (x3 : Int64) (x5 : Int32) (x7 : Int32) (x9 : Int32) (x10 : Int32) (x11 : Int32) (t0 : Int32) : Option (Int32) := (if t0 = (0 : Int32) then (f0_239a c_a32 x2 x3 x5 x7 x9 x10 x11 t0 (16 : Int32)) else (f0_239a c_a32 x2 x3 x5 x7 x9 x10 x11 t0 (8 : Int32)))
set_option maxRecDepth 65536 in
set_option maxHeartbeats 40000000 in
theorem b0_225a {p : Program} {l : Launch} {e : Env} {s : State} {m : MethodId} {args : Array Value} {below : List Frame} {meth : Method} {c : Code} {Z : State} {a0 : Array Value} {n0 : Nat} (hx : p.tables.exec = Jvm.exec) (hZ : Z.Warmed39 s.vm) (hw : ∀ d ∈ tables_1, d.before a0 Z = true) (hby : c.code = code) (hml : c.maxLocals = 25) (hown : s.vm.findClass "com/example/once_match/oncematch/PrefixRegisterStateAtEndPinLaw" = some m.cls) (hnm : meth.name = "law") (hret : meth.sig.returnType = some .boolean) (hlk : meth.locks = false)  {T : State} {locs : List Loc} {h : Heap} (a32 : Addr) (c_a32 : Nat → Int32) (d0 : Int32) (d1 : Int32) (x2 : Int32) (x3 : Int64) (x5 : Int32) (d6 : Int32) (x7 : Int32) (d8 : Int32) (x9 : Int32) (x10 : Int32) (x11 : Int32) (d12 : Int32) (t0 : Int32) (r : Int32) (X : Stand p l e room_1 s m args below meth c T locs 1 2) (eT : T.heap = h) (N : Fr n0 locs) (hsz : n0 ≤ h.size) (A_a32 : OAr Z h a32 .char 2 (ci c_a32)) (g_a32 : n0 ≤ a32) (hr : f0_225a c_a32 x2 x3 x5 x7 x9 x10 x11 t0 = some r) :
    OG p e below s (fun v h L => v = (some (.int r)) ∧ Fr n0 L) 16 128 T (mkF m 225 #[.val (.int d0), .val (.int d1), .val (.int x2), .val (.long x3), .second, .val (.int x5), .val (.int d6), .val (.int x7), .val (.int d8), .val (.int x9), .val (.int x10), .val (.int x11), .val (.int d12), .val (.ref a32), .unset, .unset, .unset, .unset, .unset, .unset, .unset, .unset, .unset, .unset, .unset] [(.int t0)]) := by
  have hr : (if t0 = (0 : Int32) then (f0_239a c_a32 x2 x3 x5 x7 x9 x10 x11 t0 (16 : Int32)) else (f0_239a c_a32 x2 x3 x5 x7 x9 x10 x11 t0 (8 : Int32))) = some r := hr
  refine o_istore X hx (hb hby at_225) #[.val (.int d0), .val (.int d1), .val (.int x2), .val (.long x3), .second, .val (.int x5), .val (.int d6), .val (.int x7), .val (.int d8), .val (.int x9), .val (.int x10), .val (.int x11), .val (.int d12), .val (.ref a32), .val (.int t0), .unset, .unset, .unset, .unset, .unset, .unset, .unset, .unset, .unset, .unset] rfl (pc' := 227) rfl ?_
  refine o_iload X hx (hb hby at_227) rfl (pc' := 229) rfl ?_
  by_cases hc36 : t0 = (0 : Int32)
  · rw [if_pos hc36] at hr
    refine o_ifYes X hx (hb hby at_229) (z_teq hc36).1 (pc' := 237) (by decide) (by decide) ?_
    refine o_bipush X hx (hb hby at_237) (16 : Int32) rfl (pc' := 239) rfl ?_
    exact b0_239a hx hZ hw hby hml hown hnm hret hlk a32 c_a32 d0 d1 x2 x3 x5 d6 x7 d8 x9 x10 x11 d12 t0 (16 : Int32) r X eT N hsz A_a32 g_a32 hr
  · rw [if_neg hc36] at hr
    refine o_ifNo X hx (hb hby at_229) (z_feq hc36).1 (pc' := 232) rfl ?_
    refine o_bipush X hx (hb hby at_232) (8 : Int32) rfl (pc' := 234) rfl ?_
    refine o_goto X hx (hb hby at_234) (pc' := 239) (by decide) (by decide) ?_
    exact b0_239a hx hZ hw hby hml hown hnm hret hlk a32 c_a32 d0 d1 x2 x3 x5 d6 x7 d8 x9 x10 x11 d12 t0 (8 : Int32) r X eT N hsz A_a32 g_a32 hr
def f0_224a (c_a32 : (Nat → Int32)) (x2 : Int32) (x3 : Int64) (x5 : Int32) (x7 : Int32) (x9 : Int32) (x10 : Int32) (x11 : Int32) : Option (Int32) := (f0_225a c_a32 x2 x3 x5 x7 x9 x10 x11 (0 : Int32))
set_option maxRecDepth 65536 in
set_option maxHeartbeats 40000000 in
theorem b0_224a {p : Program} {l : Launch} {e : Env} {s : State} {m : MethodId} {args : Array Value} {below : List Frame} {meth : Method} {c : Code} {Z : State} {a0 : Array Value} {n0 : Nat} (hx : p.tables.exec = Jvm.exec) (hZ : Z.Warmed39 s.vm) (hw : ∀ d ∈ tables_1, d.before a0 Z = true) (hby : c.code = code) (hml : c.maxLocals = 25) (hown : s.vm.findClass "com/example/once_match/oncematch/PrefixRegisterStateAtEndPinLaw" = some m.cls) (hnm : meth.name = "law") (hret : meth.sig.returnType = some .boolean) (hlk : meth.locks = false)  {T : State} {locs : List Loc} {h : Heap} (a32 : Addr) (c_a32 : Nat → Int32) (d0 : Int32) (d1 : Int32) (x2 : Int32) (x3 : Int64) (x5 : Int32) (d6 : Int32) (x7 : Int32) (d8 : Int32) (x9 : Int32) (x10 : Int32) (x11 : Int32) (d12 : Int32) (r : Int32) (X : Stand p l e room_1 s m args below meth c T locs 1 2) (eT : T.heap = h) (N : Fr n0 locs) (hsz : n0 ≤ h.size) (A_a32 : OAr Z h a32 .char 2 (ci c_a32)) (g_a32 : n0 ≤ a32) (hr : f0_224a c_a32 x2 x3 x5 x7 x9 x10 x11 = some r) :
    OG p e below s (fun v h L => v = (some (.int r)) ∧ Fr n0 L) 16 128 T (mkF m 224 #[.val (.int d0), .val (.int d1), .val (.int x2), .val (.long x3), .second, .val (.int x5), .val (.int d6), .val (.int x7), .val (.int d8), .val (.int x9), .val (.int x10), .val (.int x11), .val (.int d12), .val (.ref a32), .unset, .unset, .unset, .unset, .unset, .unset, .unset, .unset, .unset, .unset, .unset] []) := by
  have hr : (f0_225a c_a32 x2 x3 x5 x7 x9 x10 x11 (0 : Int32)) = some r := hr
  refine o_iconst X hx (hb hby at_224) (0 : Int32) rfl (pc' := 225) rfl ?_
  exact b0_225a hx hZ hw hby hml hown hnm hret hlk a32 c_a32 d0 d1 x2 x3 x5 d6 x7 d8 x9 x10 x11 d12 (0 : Int32) r X eT N hsz A_a32 g_a32 hr
def f0_220a (c_a32 : (Nat → Int32)) (x2 : Int32) (x3 : Int64) (x5 : Int32) (x7 : Int32) (x9 : Int32) (x10 : Int32) (x11 : Int32) : Option (Int32) := (f0_225a c_a32 x2 x3 x5 x7 x9 x10 x11 (1 : Int32))
set_option maxRecDepth 65536 in
set_option maxHeartbeats 40000000 in
theorem b0_220a {p : Program} {l : Launch} {e : Env} {s : State} {m : MethodId} {args : Array Value} {below : List Frame} {meth : Method} {c : Code} {Z : State} {a0 : Array Value} {n0 : Nat} (hx : p.tables.exec = Jvm.exec) (hZ : Z.Warmed39 s.vm) (hw : ∀ d ∈ tables_1, d.before a0 Z = true) (hby : c.code = code) (hml : c.maxLocals = 25) (hown : s.vm.findClass "com/example/once_match/oncematch/PrefixRegisterStateAtEndPinLaw" = some m.cls) (hnm : meth.name = "law") (hret : meth.sig.returnType = some .boolean) (hlk : meth.locks = false)  {T : State} {locs : List Loc} {h : Heap} (a32 : Addr) (c_a32 : Nat → Int32) (d0 : Int32) (d1 : Int32) (x2 : Int32) (x3 : Int64) (x5 : Int32) (d6 : Int32) (x7 : Int32) (d8 : Int32) (x9 : Int32) (x10 : Int32) (x11 : Int32) (d12 : Int32) (r : Int32) (X : Stand p l e room_1 s m args below meth c T locs 1 2) (eT : T.heap = h) (N : Fr n0 locs) (hsz : n0 ≤ h.size) (A_a32 : OAr Z h a32 .char 2 (ci c_a32)) (g_a32 : n0 ≤ a32) (hr : f0_220a c_a32 x2 x3 x5 x7 x9 x10 x11 = some r) :
    OG p e below s (fun v h L => v = (some (.int r)) ∧ Fr n0 L) 16 128 T (mkF m 220 #[.val (.int d0), .val (.int d1), .val (.int x2), .val (.long x3), .second, .val (.int x5), .val (.int d6), .val (.int x7), .val (.int d8), .val (.int x9), .val (.int x10), .val (.int x11), .val (.int d12), .val (.ref a32), .unset, .unset, .unset, .unset, .unset, .unset, .unset, .unset, .unset, .unset, .unset] []) := by
  have hr : (f0_225a c_a32 x2 x3 x5 x7 x9 x10 x11 (1 : Int32)) = some r := hr
  refine o_iconst X hx (hb hby at_220) (1 : Int32) rfl (pc' := 221) rfl ?_
  refine o_goto X hx (hb hby at_221) (pc' := 225) (by decide) (by decide) ?_
  exact b0_225a hx hZ hw hby hml hown hnm hret hlk a32 c_a32 d0 d1 x2 x3 x5 d6 x7 d8 x9 x10 x11 d12 (1 : Int32) r X eT N hsz A_a32 g_a32 hr
def f0_206a (c_a32 : (Nat → Int32)) (x2 : Int32) (x3 : Int64) (x5 : Int32) (x7 : Int32) (x9 : Int32) (x10 : Int32) (x11 : Int32) (x12 : Int32) : Option (Int32) := (if x7 < (4 : Int32) then (f0_220a c_a32 x2 x3 x5 x7 x9 x10 x11) else (if (255 : Int32) < x12 then (f0_224a c_a32 x2 x3 x5 x7 x9 x10 x11) else (f0_220a c_a32 x2 x3 x5 x7 x9 x10 x11)))
set_option maxRecDepth 65536 in
set_option maxHeartbeats 40000000 in
theorem b0_206a {p : Program} {l : Launch} {e : Env} {s : State} {m : MethodId} {args : Array Value} {below : List Frame} {meth : Method} {c : Code} {Z : State} {a0 : Array Value} {n0 : Nat} (hx : p.tables.exec = Jvm.exec) (hZ : Z.Warmed39 s.vm) (hw : ∀ d ∈ tables_1, d.before a0 Z = true) (hby : c.code = code) (hml : c.maxLocals = 25) (hown : s.vm.findClass "com/example/once_match/oncematch/PrefixRegisterStateAtEndPinLaw" = some m.cls) (hnm : meth.name = "law") (hret : meth.sig.returnType = some .boolean) (hlk : meth.locks = false)  {T : State} {locs : List Loc} {h : Heap} (a32 : Addr) (c_a32 : Nat → Int32) (d0 : Int32) (d1 : Int32) (x2 : Int32) (x3 : Int64) (x5 : Int32) (d6 : Int32) (x7 : Int32) (d8 : Int32) (x9 : Int32) (x10 : Int32) (x11 : Int32) (x12 : Int32) (r : Int32) (X : Stand p l e room_1 s m args below meth c T locs 1 2) (eT : T.heap = h) (N : Fr n0 locs) (hsz : n0 ≤ h.size) (A_a32 : OAr Z h a32 .char 2 (ci c_a32)) (g_a32 : n0 ≤ a32) (hr : f0_206a c_a32 x2 x3 x5 x7 x9 x10 x11 x12 = some r) :
    OG p e below s (fun v h L => v = (some (.int r)) ∧ Fr n0 L) 16 128 T (mkF m 206 #[.val (.int d0), .val (.int d1), .val (.int x2), .val (.long x3), .second, .val (.int x5), .val (.int d6), .val (.int x7), .val (.int d8), .val (.int x9), .val (.int x10), .val (.int x11), .val (.int x12), .val (.ref a32), .unset, .unset, .unset, .unset, .unset, .unset, .unset, .unset, .unset, .unset, .unset] []) := by
  have hr : (if x7 < (4 : Int32) then (f0_220a c_a32 x2 x3 x5 x7 x9 x10 x11) else (if (255 : Int32) < x12 then (f0_224a c_a32 x2 x3 x5 x7 x9 x10 x11) else (f0_220a c_a32 x2 x3 x5 x7 x9 x10 x11))) = some r := hr
  refine o_iload X hx (hb hby at_206) rfl (pc' := 208) rfl ?_
  refine o_iconst X hx (hb hby at_208) (4 : Int32) rfl (pc' := 209) rfl ?_
  by_cases hc56 : x7 < (4 : Int32)
  · rw [if_pos hc56] at hr
    refine o_icmpYes X hx (hb hby at_209) (c_tlt hc56).1 (pc' := 220) (by decide) (by decide) ?_
    exact b0_220a hx hZ hw hby hml hown hnm hret hlk a32 c_a32 d0 d1 x2 x3 x5 d6 x7 d8 x9 x10 x11 x12 r X eT N hsz A_a32 g_a32 hr
  · rw [if_neg hc56] at hr
    refine o_icmpNo X hx (hb hby at_209) (c_flt hc56).1 (pc' := 212) rfl ?_
    refine o_iload X hx (hb hby at_212) rfl (pc' := 214) rfl ?_
    refine o_sipush X hx (hb hby at_214) (255 : Int32) rfl (pc' := 217) rfl ?_
    by_cases hc57 : (255 : Int32) < x12
    · rw [if_pos hc57] at hr
      refine o_icmpYes X hx (hb hby at_217) (c_tgt hc57).1 (pc' := 224) (by decide) (by decide) ?_
      exact b0_224a hx hZ hw hby hml hown hnm hret hlk a32 c_a32 d0 d1 x2 x3 x5 d6 x7 d8 x9 x10 x11 x12 r X eT N hsz A_a32 g_a32 hr
    · rw [if_neg hc57] at hr
      refine o_icmpNo X hx (hb hby at_217) (c_fgt hc57).1 (pc' := 220) rfl ?_
      exact b0_220a hx hZ hw hby hml hown hnm hret hlk a32 c_a32 d0 d1 x2 x3 x5 d6 x7 d8 x9 x10 x11 x12 r X eT N hsz A_a32 g_a32 hr
def f0_192a (c_a32 : (Nat → Int32)) (x2 : Int32) (x3 : Int64) (x5 : Int32) (x7 : Int32) (x9 : Int32) (x10 : Int32) (x11 : Int32) (x12 : Int32) : Option (Int32) := (if x7 < (3 : Int32) then (f0_206a c_a32 x2 x3 x5 x7 x9 x10 x11 x12) else (if (255 : Int32) < x11 then (f0_224a c_a32 x2 x3 x5 x7 x9 x10 x11) else (f0_206a c_a32 x2 x3 x5 x7 x9 x10 x11 x12)))
set_option maxRecDepth 65536 in
set_option maxHeartbeats 40000000 in
theorem b0_192a {p : Program} {l : Launch} {e : Env} {s : State} {m : MethodId} {args : Array Value} {below : List Frame} {meth : Method} {c : Code} {Z : State} {a0 : Array Value} {n0 : Nat} (hx : p.tables.exec = Jvm.exec) (hZ : Z.Warmed39 s.vm) (hw : ∀ d ∈ tables_1, d.before a0 Z = true) (hby : c.code = code) (hml : c.maxLocals = 25) (hown : s.vm.findClass "com/example/once_match/oncematch/PrefixRegisterStateAtEndPinLaw" = some m.cls) (hnm : meth.name = "law") (hret : meth.sig.returnType = some .boolean) (hlk : meth.locks = false)  {T : State} {locs : List Loc} {h : Heap} (a32 : Addr) (c_a32 : Nat → Int32) (d0 : Int32) (d1 : Int32) (x2 : Int32) (x3 : Int64) (x5 : Int32) (d6 : Int32) (x7 : Int32) (d8 : Int32) (x9 : Int32) (x10 : Int32) (x11 : Int32) (x12 : Int32) (r : Int32) (X : Stand p l e room_1 s m args below meth c T locs 1 2) (eT : T.heap = h) (N : Fr n0 locs) (hsz : n0 ≤ h.size) (A_a32 : OAr Z h a32 .char 2 (ci c_a32)) (g_a32 : n0 ≤ a32) (hr : f0_192a c_a32 x2 x3 x5 x7 x9 x10 x11 x12 = some r) :
    OG p e below s (fun v h L => v = (some (.int r)) ∧ Fr n0 L) 16 128 T (mkF m 192 #[.val (.int d0), .val (.int d1), .val (.int x2), .val (.long x3), .second, .val (.int x5), .val (.int d6), .val (.int x7), .val (.int d8), .val (.int x9), .val (.int x10), .val (.int x11), .val (.int x12), .val (.ref a32), .unset, .unset, .unset, .unset, .unset, .unset, .unset, .unset, .unset, .unset, .unset] []) := by
  have hr : (if x7 < (3 : Int32) then (f0_206a c_a32 x2 x3 x5 x7 x9 x10 x11 x12) else (if (255 : Int32) < x11 then (f0_224a c_a32 x2 x3 x5 x7 x9 x10 x11) else (f0_206a c_a32 x2 x3 x5 x7 x9 x10 x11 x12))) = some r := hr
  refine o_iload X hx (hb hby at_192) rfl (pc' := 194) rfl ?_
  refine o_iconst X hx (hb hby at_194) (3 : Int32) rfl (pc' := 195) rfl ?_
  by_cases hc55 : x7 < (3 : Int32)
  · rw [if_pos hc55] at hr
    refine o_icmpYes X hx (hb hby at_195) (c_tlt hc55).1 (pc' := 206) (by decide) (by decide) ?_
    exact b0_206a hx hZ hw hby hml hown hnm hret hlk a32 c_a32 d0 d1 x2 x3 x5 d6 x7 d8 x9 x10 x11 x12 r X eT N hsz A_a32 g_a32 hr
  · rw [if_neg hc55] at hr
    refine o_icmpNo X hx (hb hby at_195) (c_flt hc55).1 (pc' := 198) rfl ?_
    refine o_iload X hx (hb hby at_198) rfl (pc' := 200) rfl ?_
    refine o_sipush X hx (hb hby at_200) (255 : Int32) rfl (pc' := 203) rfl ?_
    by_cases hc58 : (255 : Int32) < x11
    · rw [if_pos hc58] at hr
      refine o_icmpYes X hx (hb hby at_203) (c_tgt hc58).1 (pc' := 224) (by decide) (by decide) ?_
      exact b0_224a hx hZ hw hby hml hown hnm hret hlk a32 c_a32 d0 d1 x2 x3 x5 d6 x7 d8 x9 x10 x11 x12 r X eT N hsz A_a32 g_a32 hr
    · rw [if_neg hc58] at hr
      refine o_icmpNo X hx (hb hby at_203) (c_fgt hc58).1 (pc' := 206) rfl ?_
      exact b0_206a hx hZ hw hby hml hown hnm hret hlk a32 c_a32 d0 d1 x2 x3 x5 d6 x7 d8 x9 x10 x11 x12 r X eT N hsz A_a32 g_a32 hr
def f0_170a (c_a32 : (Nat → Int32)) (x2 : Int32) (x3 : Int64) (x5 : Int32) (x7 : Int32) (x9 : Int32) (x10 : Int32) (x11 : Int32) (x12 : Int32) : Option (Int32) := (if (255 : Int32) < x9 then (f0_224a c_a32 x2 x3 x5 x7 x9 x10 x11) else (if x7 < (2 : Int32) then (f0_192a c_a32 x2 x3 x5 x7 x9 x10 x11 x12) else (if (255 : Int32) < x10 then (f0_224a c_a32 x2 x3 x5 x7 x9 x10 x11) else (f0_192a c_a32 x2 x3 x5 x7 x9 x10 x11 x12))))
set_option maxRecDepth 65536 in
set_option maxHeartbeats 40000000 in
theorem b0_170a {p : Program} {l : Launch} {e : Env} {s : State} {m : MethodId} {args : Array Value} {below : List Frame} {meth : Method} {c : Code} {Z : State} {a0 : Array Value} {n0 : Nat} (hx : p.tables.exec = Jvm.exec) (hZ : Z.Warmed39 s.vm) (hw : ∀ d ∈ tables_1, d.before a0 Z = true) (hby : c.code = code) (hml : c.maxLocals = 25) (hown : s.vm.findClass "com/example/once_match/oncematch/PrefixRegisterStateAtEndPinLaw" = some m.cls) (hnm : meth.name = "law") (hret : meth.sig.returnType = some .boolean) (hlk : meth.locks = false)  {T : State} {locs : List Loc} {h : Heap} (a32 : Addr) (c_a32 : Nat → Int32) (d0 : Int32) (d1 : Int32) (x2 : Int32) (x3 : Int64) (x5 : Int32) (d6 : Int32) (x7 : Int32) (d8 : Int32) (x9 : Int32) (x10 : Int32) (x11 : Int32) (x12 : Int32) (r : Int32) (X : Stand p l e room_1 s m args below meth c T locs 1 2) (eT : T.heap = h) (N : Fr n0 locs) (hsz : n0 ≤ h.size) (A_a32 : OAr Z h a32 .char 2 (ci c_a32)) (g_a32 : n0 ≤ a32) (hr : f0_170a c_a32 x2 x3 x5 x7 x9 x10 x11 x12 = some r) :
    OG p e below s (fun v h L => v = (some (.int r)) ∧ Fr n0 L) 16 128 T (mkF m 170 #[.val (.int d0), .val (.int d1), .val (.int x2), .val (.long x3), .second, .val (.int x5), .val (.int d6), .val (.int x7), .val (.int d8), .val (.int x9), .val (.int x10), .val (.int x11), .val (.int x12), .val (.ref a32), .unset, .unset, .unset, .unset, .unset, .unset, .unset, .unset, .unset, .unset, .unset] []) := by
  have hr : (if (255 : Int32) < x9 then (f0_224a c_a32 x2 x3 x5 x7 x9 x10 x11) else (if x7 < (2 : Int32) then (f0_192a c_a32 x2 x3 x5 x7 x9 x10 x11 x12) else (if (255 : Int32) < x10 then (f0_224a c_a32 x2 x3 x5 x7 x9 x10 x11) else (f0_192a c_a32 x2 x3 x5 x7 x9 x10 x11 x12)))) = some r := hr
  refine o_iload X hx (hb hby at_170) rfl (pc' := 172) rfl ?_
  refine o_sipush X hx (hb hby at_172) (255 : Int32) rfl (pc' := 175) rfl ?_
  by_cases hc35 : (255 : Int32) < x9
  · rw [if_pos hc35] at hr
    refine o_icmpYes X hx (hb hby at_175) (c_tgt hc35).1 (pc' := 224) (by decide) (by decide) ?_
    exact b0_224a hx hZ hw hby hml hown hnm hret hlk a32 c_a32 d0 d1 x2 x3 x5 d6 x7 d8 x9 x10 x11 x12 r X eT N hsz A_a32 g_a32 hr
  · rw [if_neg hc35] at hr
    refine o_icmpNo X hx (hb hby at_175) (c_fgt hc35).1 (pc' := 178) rfl ?_
    refine o_iload X hx (hb hby at_178) rfl (pc' := 180) rfl ?_
    refine o_iconst X hx (hb hby at_180) (2 : Int32) rfl (pc' := 181) rfl ?_
    by_cases hc54 : x7 < (2 : Int32)
    · rw [if_pos hc54] at hr
      refine o_icmpYes X hx (hb hby at_181) (c_tlt hc54).1 (pc' := 192) (by decide) (by decide) ?_
      exact b0_192a hx hZ hw hby hml hown hnm hret hlk a32 c_a32 d0 d1 x2 x3 x5 d6 x7 d8 x9 x10 x11 x12 r X eT N hsz A_a32 g_a32 hr
    · rw [if_neg hc54] at hr
      refine o_icmpNo X hx (hb hby at_181) (c_flt hc54).1 (pc' := 184) rfl ?_
      refine o_iload X hx (hb hby at_184) rfl (pc' := 186) rfl ?_
      refine o_sipush X hx (hb hby at_186) (255 : Int32) rfl (pc' := 189) rfl ?_
      by_cases hc59 : (255 : Int32) < x10
      · rw [if_pos hc59] at hr
        refine o_icmpYes X hx (hb hby at_189) (c_tgt hc59).1 (pc' := 224) (by decide) (by decide) ?_
        exact b0_224a hx hZ hw hby hml hown hnm hret hlk a32 c_a32 d0 d1 x2 x3 x5 d6 x7 d8 x9 x10 x11 x12 r X eT N hsz A_a32 g_a32 hr
      · rw [if_neg hc59] at hr
        refine o_icmpNo X hx (hb hby at_189) (c_fgt hc59).1 (pc' := 192) rfl ?_
        exact b0_192a hx hZ hw hby hml hown hnm hret hlk a32 c_a32 d0 d1 x2 x3 x5 d6 x7 d8 x9 x10 x11 x12 r X eT N hsz A_a32 g_a32 hr
def f0_443b (c_a61 : (Nat → Int32)) (x20 : Int64) (x23 : Int32) : Option (Int32) := (Option.bind (f2_0 c_a61 3) (fun v76 => (Option.bind (f7_0 v76.2.1 v76.1 v76.2.2.2.2.1 v76.2.2.1 x20) (fun v77 => (if v77 = x23 then (some (1 : Int32)) else (some (0 : Int32)))))))
set_option maxRecDepth 65536 in
set_option maxHeartbeats 40000000 in
theorem b0_443b {p : Program} {l : Launch} {e : Env} {s : State} {m : MethodId} {args : Array Value} {below : List Frame} {meth : Method} {c : Code} {Z : State} {a0 : Array Value} {n0 : Nat} (hx : p.tables.exec = Jvm.exec) (hZ : Z.Warmed39 s.vm) (hw : ∀ d ∈ tables_1, d.before a0 Z = true) (hby : c.code = code) (hml : c.maxLocals = 25) (hown : s.vm.findClass "com/example/once_match/oncematch/PrefixRegisterStateAtEndPinLaw" = some m.cls) (hnm : meth.name = "law") (hret : meth.sig.returnType = some .boolean) (hlk : meth.locks = false)  {T : State} {locs : List Loc} {h : Heap} (a61 : Addr) (c_a61 : Nat → Int32) (d0 : Int32) (d1 : Int32) (d2 : Int32) (d3 : Int64) (d5 : Int32) (d6 : Int32) (d7 : Int32) (d8 : Int32) (d9 : Int32) (d10 : Int32) (d11 : Int32) (d12 : Int32) (d14 : Int32) (d15 : Int32) (d16 : Int32) (d17 : Int32) (d18 : Int32) (d19 : Int32) (x20 : Int64) (d22 : Int32) (x23 : Int32) (r : Int32) (X : Stand p l e room_1 s m args below meth c T locs 1 3) (eT : T.heap = h) (N : Fr n0 locs) (hsz : n0 ≤ h.size) (A_a61 : OAr Z h a61 .char 3 (ci c_a61)) (g_a61 : n0 ≤ a61) (hr : f0_443b c_a61 x20 x23 = some r) :
    OG p e below s (fun v h L => v = (some (.int r)) ∧ Fr n0 L) 16 128 T (mkF m 443 #[.val (.int d0), .val (.int d1), .val (.int d2), .val (.long d3), .second, .val (.int d5), .val (.int d6), .val (.int d7), .val (.int d8), .val (.int d9), .val (.int d10), .val (.int d11), .val (.int d12), .val (.ref a61), .val (.int d14), .val (.int d15), .val (.int d16), .val (.int d17), .val (.int d18), .val (.int d19), .val (.long x20), .second, .val (.int d22), .val (.int x23), .unset] []) := by
  have hr : (Option.bind (f2_0 c_a61 3) (fun v76 => (Option.bind (f7_0 v76.2.1 v76.1 v76.2.2.2.2.1 v76.2.2.1 x20) (fun v77 => (if v77 = x23 then (some (1 : Int32)) else (some (0 : Int32))))))) = some r := hr
  refine o_new X hx hZ hown eT (hw _ (List.mem_of_getElem? (i := 6) rfl)) (hw _ (List.mem_of_getElem? (i := 7) rfl)) (hw _ (List.mem_of_getElem? (i := 8) rfl)) (hb hby at_443) (pc' := 446) rfl (by decide) (by decide) ?_
  intro T75 h75 a75 X75 e75 q75 E75 A75 D75
  have g75 : n0 ≤ a75 := Nat.le_trans hsz (Nat.le_of_eq q75.symm)
  have ne_a61_a75 : a61 ≠ a75 := by rw [q75]; exact Nat.ne_of_lt (A_a61.lt)
  have A75_a61 := OAr.ext E75 A_a61
  have z75 : n0 ≤ h75.size := Nat.le_trans hsz E75.1
  have F75_lane : Fld Z h75 a75 "com/example/once_match/oncematch/PrefixRegister" "lane" "I" (.int (0 : Int32)) := D75 (Or.inr (hw _ (List.mem_of_getElem? (i := 20) rfl))) (ty := .int) (by decide)
  have F75_length : Fld Z h75 a75 "com/example/once_match/oncematch/PrefixRegister" "length" "I" (.int (0 : Int32)) := D75 (Or.inr (hw _ (List.mem_of_getElem? (i := 22) rfl))) (ty := .int) (by decide)
  have F75_entry : Fld Z h75 a75 "com/example/once_match/oncematch/PrefixRegister" "entry" "I" (.int (0 : Int32)) := D75 (Or.inr (hw _ (List.mem_of_getElem? (i := 24) rfl))) (ty := .int) (by decide)
  have F75_filler : Fld Z h75 a75 "com/example/once_match/oncematch/PrefixRegister" "filler" "I" (.int (0 : Int32)) := D75 (Or.inr (hw _ (List.mem_of_getElem? (i := 30) rfl))) (ty := .int) (by decide)
  have F75_prefix : Fld Z h75 a75 "com/example/once_match/oncematch/PrefixRegister" "prefix" "J" (.long (0 : Int64)) := D75 (Or.inr (hw _ (List.mem_of_getElem? (i := 36) rfl))) (ty := .long) (by decide)
  have F75_lasts : Fld Z h75 a75 "com/example/once_match/oncematch/PrefixRegister" "lasts" "J" (.long (0 : Int64)) := D75 (Or.inr (hw _ (List.mem_of_getElem? (i := 39) rfl))) (ty := .long) (by decide)
  have F75_before : Fld Z h75 a75 "com/example/once_match/oncematch/PrefixRegister" "before" "[J" .null := D75 (Or.inr (hw _ (List.mem_of_getElem? (i := 42) rfl))) (ty := (.array .long)) (by decide)
  refine o_dup X75 hx (hb hby at_446) rfl (pc' := 447) rfl ?_
  refine o_aload X75 hx (hb hby at_447) rfl rfl (pc' := 449) rfl ?_
  rcases hq76 : f2_0 c_a61 3 with _ | v76
  · rw [hq76] at hr; cases hr
  rw [hq76] at hr
  dsimp only [Option.bind] at hr
  refine o_special X75 hx hZ (argsL := [(.ref a61)]) (rest := [(.ref a75)]) (a := a75) 1 rfl hown e75 (hw _ (List.mem_of_getElem? (i := 9) rfl)) (hw _ (List.mem_of_getElem? (i := 10) rfl)) (hw _ (List.mem_of_getElem? (i := 8) rfl)) (hw _ (List.mem_of_getElem? (i := 11) rfl)) (by decide) (rm2 l Z a0 hw [] a75 a61 (.int (0 : Int32)) (.int (0 : Int32)) (.int (0 : Int32)) (.int (0 : Int32)) (.long (0 : Int64)) (.long (0 : Int64)) .null c_a61 3 h75 n0 z75 A75 F75_lane F75_length F75_entry F75_filler F75_prefix F75_lasts F75_before g75 A75_a61 g_a61 (Ne.symm ne_a61_a75) v76 hq76) (by decide) (by decide) (by rw [hml]; rfl) (lenOf pd_4 rfl) rfl (Nat.le_refl _) (hb hby at_449) (pc' := 452) rfl (by decide) (by decide) ?_
  rintro _ T76 L76 X76 ⟨rfl, N76, K76, B76, F76_lane, F76_length, F76_entry, F76_filler, F76_prefix, F76_lasts⟩
  replace X76 : Stand p l e room_1 s m args below meth c T76 (locs ++ L76) 3 14 := X76
  have M76 := Fr.app N N76
  dsimp only [Option.toList, List.cons_append, List.nil_append]
  have A76_a61 := OAr.keep A75_a61 K76 (by simp [ne_a61_a75])
  have A76_a75 := Exa.keep A75 K76
  have z76 : n0 ≤ T76.heap.size := Nat.le_trans z75 K76.1
  refine o_astore X76 hx (hb hby at_452) rfl #[.val (.int d0), .val (.int d1), .val (.int d2), .val (.long d3), .second, .val (.int d5), .val (.int d6), .val (.int d7), .val (.int d8), .val (.int d9), .val (.int d10), .val (.int d11), .val (.int d12), .val (.ref a61), .val (.int d14), .val (.int d15), .val (.int d16), .val (.int d17), .val (.int d18), .val (.int d19), .val (.long x20), .second, .val (.int d22), .val (.int x23), .val (.ref a75)] rfl (pc' := 454) rfl ?_
  refine o_aload X76 hx (hb hby at_454) rfl rfl (pc' := 456) rfl ?_
  refine o_lload X76 hx (hb hby at_456) rfl (pc' := 458) rfl ?_
  rcases hq77 : f7_0 v76.2.1 v76.1 v76.2.2.2.2.1 v76.2.2.1 x20 with _ | v77
  · rw [hq77] at hr; cases hr
  rw [hq77] at hr
  dsimp only [Option.bind] at hr
  refine o_virtual X76 hx hZ (argsL := [(.long x20)]) (rest := []) (a := a75) 0 hown (rfl : T76.heap = T76.heap) (hw _ (List.mem_of_getElem? (i := 43) rfl)) (hw _ (List.mem_of_getElem? (i := 44) rfl)) (hw _ (List.mem_of_getElem? (i := 46) rfl)) (hw _ (List.mem_of_getElem? (i := 45) rfl)) (hw _ (List.mem_of_getElem? (i := 8) rfl)) (hw _ (List.mem_of_getElem? (i := 47) rfl)) (by decide) B76 (rm7 l Z a0 hw [] a75 x20 v76.2.1 v76.1 v76.2.2.2.2.1 v76.2.2.1 T76.heap n0 z76 B76 F76_length F76_lane F76_prefix F76_entry v77 hq77) (by decide) (by decide) (by rw [hml]; rfl) (lenOf pd_5 rfl) rfl (Nat.le_refl _) (hb hby at_458) (pc' := 461) rfl (by decide) (by decide) ?_
  rintro _ T77 L77 X77 ⟨rfl, N77, e77⟩
  replace X77 : Stand p l e room_1 s m args below meth c T77 ((locs ++ L76) ++ L77) 3 14 := X77
  have M77 := Fr.app M76 N77
  dsimp only [Option.toList, List.cons_append, List.nil_append]
  refine o_iload X77 hx (hb hby at_461) rfl (pc' := 463) rfl ?_
  by_cases hc78 : v77 = x23
  · rw [if_pos hc78] at hr
    refine o_icmpNo X77 hx (hb hby at_463) (c_teq hc78).2 (pc' := 466) rfl ?_
    refine o_iconst X77 hx (hb hby at_466) (1 : Int32) rfl (pc' := 467) rfl ?_
    refine o_goto X77 hx (hb hby at_467) (pc' := 471) (by decide) (by decide) ?_
    obtain rfl : (1 : Int32) = r := Option.some.inj hr
    exact o_retN X77 hx hlk (t := .boolean) (by simp) hret (hb hby at_471) rfl ⟨rfl, M77⟩ (by decide) (by decide)
  · rw [if_neg hc78] at hr
    refine o_icmpYes X77 hx (hb hby at_463) (c_feq hc78).2 (pc' := 470) (by decide) (by decide) ?_
    refine o_iconst X77 hx (hb hby at_470) (0 : Int32) rfl (pc' := 471) rfl ?_
    obtain rfl : (0 : Int32) = r := Option.some.inj hr
    exact o_retN X77 hx hlk (t := .boolean) (by simp) hret (hb hby at_471) rfl ⟨rfl, M77⟩ (by decide) (by decide)
def f0_440b (c_a61 : (Nat → Int32)) (x20 : Int64) : Option (Int32) := (f0_443b c_a61 x20 (0 : Int32))
set_option maxRecDepth 65536 in
set_option maxHeartbeats 40000000 in
theorem b0_440b {p : Program} {l : Launch} {e : Env} {s : State} {m : MethodId} {args : Array Value} {below : List Frame} {meth : Method} {c : Code} {Z : State} {a0 : Array Value} {n0 : Nat} (hx : p.tables.exec = Jvm.exec) (hZ : Z.Warmed39 s.vm) (hw : ∀ d ∈ tables_1, d.before a0 Z = true) (hby : c.code = code) (hml : c.maxLocals = 25) (hown : s.vm.findClass "com/example/once_match/oncematch/PrefixRegisterStateAtEndPinLaw" = some m.cls) (hnm : meth.name = "law") (hret : meth.sig.returnType = some .boolean) (hlk : meth.locks = false)  {T : State} {locs : List Loc} {h : Heap} (a61 : Addr) (c_a61 : Nat → Int32) (d0 : Int32) (d1 : Int32) (d2 : Int32) (d3 : Int64) (d5 : Int32) (d6 : Int32) (d7 : Int32) (d8 : Int32) (d9 : Int32) (d10 : Int32) (d11 : Int32) (d12 : Int32) (d14 : Int32) (d15 : Int32) (d16 : Int32) (d17 : Int32) (d18 : Int32) (d19 : Int32) (x20 : Int64) (d22 : Int32) (r : Int32) (X : Stand p l e room_1 s m args below meth c T locs 1 3) (eT : T.heap = h) (N : Fr n0 locs) (hsz : n0 ≤ h.size) (A_a61 : OAr Z h a61 .char 3 (ci c_a61)) (g_a61 : n0 ≤ a61) (hr : f0_440b c_a61 x20 = some r) :
    OG p e below s (fun v h L => v = (some (.int r)) ∧ Fr n0 L) 16 128 T (mkF m 440 #[.val (.int d0), .val (.int d1), .val (.int d2), .val (.long d3), .second, .val (.int d5), .val (.int d6), .val (.int d7), .val (.int d8), .val (.int d9), .val (.int d10), .val (.int d11), .val (.int d12), .val (.ref a61), .val (.int d14), .val (.int d15), .val (.int d16), .val (.int d17), .val (.int d18), .val (.int d19), .val (.long x20), .second, .val (.int d22), .unset, .unset] []) := by
  have hr : (f0_443b c_a61 x20 (0 : Int32)) = some r := hr
  refine o_iconst X hx (hb hby at_440) (0 : Int32) rfl (pc' := 441) rfl ?_
  refine o_istore X hx (hb hby at_441) #[.val (.int d0), .val (.int d1), .val (.int d2), .val (.long d3), .second, .val (.int d5), .val (.int d6), .val (.int d7), .val (.int d8), .val (.int d9), .val (.int d10), .val (.int d11), .val (.int d12), .val (.ref a61), .val (.int d14), .val (.int d15), .val (.int d16), .val (.int d17), .val (.int d18), .val (.int d19), .val (.long x20), .second, .val (.int d22), .val (.int (0 : Int32)), .unset] rfl (pc' := 443) rfl ?_
  exact b0_443b hx hZ hw hby hml hown hnm hret hlk a61 c_a61 d0 d1 d2 d3 d5 d6 d7 d8 d9 d10 d11 d12 d14 d15 d16 d17 d18 d19 x20 d22 (0 : Int32) r X eT N hsz A_a61 g_a61 hr
def f0_421b (c_a61 : (Nat → Int32)) (x9 : Int32) (x17 : Int32) (x20 : Int64) (x22 : Int32) : Option (Int32) := (if (1 : Int32) < x22 then (if x17 = x9 then (f0_443b c_a61 x20 (1 : Int32)) else (f0_440b c_a61 x20)) else (f0_440b c_a61 x20))
set_option maxRecDepth 65536 in
set_option maxHeartbeats 40000000 in
theorem b0_421b {p : Program} {l : Launch} {e : Env} {s : State} {m : MethodId} {args : Array Value} {below : List Frame} {meth : Method} {c : Code} {Z : State} {a0 : Array Value} {n0 : Nat} (hx : p.tables.exec = Jvm.exec) (hZ : Z.Warmed39 s.vm) (hw : ∀ d ∈ tables_1, d.before a0 Z = true) (hby : c.code = code) (hml : c.maxLocals = 25) (hown : s.vm.findClass "com/example/once_match/oncematch/PrefixRegisterStateAtEndPinLaw" = some m.cls) (hnm : meth.name = "law") (hret : meth.sig.returnType = some .boolean) (hlk : meth.locks = false)  {T : State} {locs : List Loc} {h : Heap} (a61 : Addr) (c_a61 : Nat → Int32) (d0 : Int32) (d1 : Int32) (d2 : Int32) (d3 : Int64) (d5 : Int32) (d6 : Int32) (d7 : Int32) (d8 : Int32) (x9 : Int32) (d10 : Int32) (d11 : Int32) (d12 : Int32) (d14 : Int32) (d15 : Int32) (d16 : Int32) (x17 : Int32) (d18 : Int32) (d19 : Int32) (x20 : Int64) (x22 : Int32) (r : Int32) (X : Stand p l e room_1 s m args below meth c T locs 1 3) (eT : T.heap = h) (N : Fr n0 locs) (hsz : n0 ≤ h.size) (A_a61 : OAr Z h a61 .char 3 (ci c_a61)) (g_a61 : n0 ≤ a61) (hr : f0_421b c_a61 x9 x17 x20 x22 = some r) :
    OG p e below s (fun v h L => v = (some (.int r)) ∧ Fr n0 L) 16 128 T (mkF m 421 #[.val (.int d0), .val (.int d1), .val (.int d2), .val (.long d3), .second, .val (.int d5), .val (.int d6), .val (.int d7), .val (.int d8), .val (.int x9), .val (.int d10), .val (.int d11), .val (.int d12), .val (.ref a61), .val (.int d14), .val (.int d15), .val (.int d16), .val (.int x17), .val (.int d18), .val (.int d19), .val (.long x20), .second, .val (.int x22), .unset, .unset] []) := by
  have hr : (if (1 : Int32) < x22 then (if x17 = x9 then (f0_443b c_a61 x20 (1 : Int32)) else (f0_440b c_a61 x20)) else (f0_440b c_a61 x20)) = some r := hr
  refine o_iload X hx (hb hby at_421) rfl (pc' := 423) rfl ?_
  refine o_iconst X hx (hb hby at_423) (1 : Int32) rfl (pc' := 424) rfl ?_
  by_cases hc82 : (1 : Int32) < x22
  · rw [if_pos hc82] at hr
    refine o_icmpNo X hx (hb hby at_424) (c_tgt hc82).2 (pc' := 427) rfl ?_
    refine o_iload X hx (hb hby at_427) rfl (pc' := 429) rfl ?_
    refine o_iload X hx (hb hby at_429) rfl (pc' := 431) rfl ?_
    by_cases hc83 : x17 = x9
    · rw [if_pos hc83] at hr
      refine o_icmpNo X hx (hb hby at_431) (c_teq hc83).2 (pc' := 434) rfl ?_
      refine o_iconst X hx (hb hby at_434) (1 : Int32) rfl (pc' := 435) rfl ?_
      refine o_istore X hx (hb hby at_435) #[.val (.int d0), .val (.int d1), .val (.int d2), .val (.long d3), .second, .val (.int d5), .val (.int d6), .val (.int d7), .val (.int d8), .val (.int x9), .val (.int d10), .val (.int d11), .val (.int d12), .val (.ref a61), .val (.int d14), .val (.int d15), .val (.int d16), .val (.int x17), .val (.int d18), .val (.int d19), .val (.long x20), .second, .val (.int x22), .val (.int (1 : Int32)), .unset] rfl (pc' := 437) rfl ?_
      refine o_goto X hx (hb hby at_437) (pc' := 443) (by decide) (by decide) ?_
      exact b0_443b hx hZ hw hby hml hown hnm hret hlk a61 c_a61 d0 d1 d2 d3 d5 d6 d7 d8 x9 d10 d11 d12 d14 d15 d16 x17 d18 d19 x20 x22 (1 : Int32) r X eT N hsz A_a61 g_a61 hr
    · rw [if_neg hc83] at hr
      refine o_icmpYes X hx (hb hby at_431) (c_feq hc83).2 (pc' := 440) (by decide) (by decide) ?_
      exact b0_440b hx hZ hw hby hml hown hnm hret hlk a61 c_a61 d0 d1 d2 d3 d5 d6 d7 d8 x9 d10 d11 d12 d14 d15 d16 x17 d18 d19 x20 x22 r X eT N hsz A_a61 g_a61 hr
  · rw [if_neg hc82] at hr
    refine o_icmpYes X hx (hb hby at_424) (c_fgt hc82).2 (pc' := 440) (by decide) (by decide) ?_
    exact b0_440b hx hZ hw hby hml hown hnm hret hlk a61 c_a61 d0 d1 d2 d3 d5 d6 d7 d8 x9 d10 d11 d12 d14 d15 d16 x17 d18 d19 x20 x22 r X eT N hsz A_a61 g_a61 hr
def f0_395b (c_a61 : (Nat → Int32)) (x9 : Int32) (x10 : Int32) (x17 : Int32) (x18 : Int32) (x20 : Int64) (x22 : Int32) : Option (Int32) := (if (2 : Int32) < x22 then (if x18 = x9 then (if x17 = x10 then (f0_443b c_a61 x20 (2 : Int32)) else (f0_421b c_a61 x9 x17 x20 x22)) else (f0_421b c_a61 x9 x17 x20 x22)) else (f0_421b c_a61 x9 x17 x20 x22))
set_option maxRecDepth 65536 in
set_option maxHeartbeats 40000000 in
theorem b0_395b {p : Program} {l : Launch} {e : Env} {s : State} {m : MethodId} {args : Array Value} {below : List Frame} {meth : Method} {c : Code} {Z : State} {a0 : Array Value} {n0 : Nat} (hx : p.tables.exec = Jvm.exec) (hZ : Z.Warmed39 s.vm) (hw : ∀ d ∈ tables_1, d.before a0 Z = true) (hby : c.code = code) (hml : c.maxLocals = 25) (hown : s.vm.findClass "com/example/once_match/oncematch/PrefixRegisterStateAtEndPinLaw" = some m.cls) (hnm : meth.name = "law") (hret : meth.sig.returnType = some .boolean) (hlk : meth.locks = false)  {T : State} {locs : List Loc} {h : Heap} (a61 : Addr) (c_a61 : Nat → Int32) (d0 : Int32) (d1 : Int32) (d2 : Int32) (d3 : Int64) (d5 : Int32) (d6 : Int32) (d7 : Int32) (d8 : Int32) (x9 : Int32) (x10 : Int32) (d11 : Int32) (d12 : Int32) (d14 : Int32) (d15 : Int32) (d16 : Int32) (x17 : Int32) (x18 : Int32) (d19 : Int32) (x20 : Int64) (x22 : Int32) (r : Int32) (X : Stand p l e room_1 s m args below meth c T locs 1 3) (eT : T.heap = h) (N : Fr n0 locs) (hsz : n0 ≤ h.size) (A_a61 : OAr Z h a61 .char 3 (ci c_a61)) (g_a61 : n0 ≤ a61) (hr : f0_395b c_a61 x9 x10 x17 x18 x20 x22 = some r) :
    OG p e below s (fun v h L => v = (some (.int r)) ∧ Fr n0 L) 16 128 T (mkF m 395 #[.val (.int d0), .val (.int d1), .val (.int d2), .val (.long d3), .second, .val (.int d5), .val (.int d6), .val (.int d7), .val (.int d8), .val (.int x9), .val (.int x10), .val (.int d11), .val (.int d12), .val (.ref a61), .val (.int d14), .val (.int d15), .val (.int d16), .val (.int x17), .val (.int x18), .val (.int d19), .val (.long x20), .second, .val (.int x22), .unset, .unset] []) := by
  have hr : (if (2 : Int32) < x22 then (if x18 = x9 then (if x17 = x10 then (f0_443b c_a61 x20 (2 : Int32)) else (f0_421b c_a61 x9 x17 x20 x22)) else (f0_421b c_a61 x9 x17 x20 x22)) else (f0_421b c_a61 x9 x17 x20 x22)) = some r := hr
  refine o_iload X hx (hb hby at_395) rfl (pc' := 397) rfl ?_
  refine o_iconst X hx (hb hby at_397) (2 : Int32) rfl (pc' := 398) rfl ?_
  by_cases hc79 : (2 : Int32) < x22
  · rw [if_pos hc79] at hr
    refine o_icmpNo X hx (hb hby at_398) (c_tgt hc79).2 (pc' := 401) rfl ?_
    refine o_iload X hx (hb hby at_401) rfl (pc' := 403) rfl ?_
    refine o_iload X hx (hb hby at_403) rfl (pc' := 405) rfl ?_
    by_cases hc80 : x18 = x9
    · rw [if_pos hc80] at hr
      refine o_icmpNo X hx (hb hby at_405) (c_teq hc80).2 (pc' := 408) rfl ?_
      refine o_iload X hx (hb hby at_408) rfl (pc' := 410) rfl ?_
      refine o_iload X hx (hb hby at_410) rfl (pc' := 412) rfl ?_
      by_cases hc81 : x17 = x10
      · rw [if_pos hc81] at hr
        refine o_icmpNo X hx (hb hby at_412) (c_teq hc81).2 (pc' := 415) rfl ?_
        refine o_iconst X hx (hb hby at_415) (2 : Int32) rfl (pc' := 416) rfl ?_
        refine o_istore X hx (hb hby at_416) #[.val (.int d0), .val (.int d1), .val (.int d2), .val (.long d3), .second, .val (.int d5), .val (.int d6), .val (.int d7), .val (.int d8), .val (.int x9), .val (.int x10), .val (.int d11), .val (.int d12), .val (.ref a61), .val (.int d14), .val (.int d15), .val (.int d16), .val (.int x17), .val (.int x18), .val (.int d19), .val (.long x20), .second, .val (.int x22), .val (.int (2 : Int32)), .unset] rfl (pc' := 418) rfl ?_
        refine o_goto X hx (hb hby at_418) (pc' := 443) (by decide) (by decide) ?_
        exact b0_443b hx hZ hw hby hml hown hnm hret hlk a61 c_a61 d0 d1 d2 d3 d5 d6 d7 d8 x9 x10 d11 d12 d14 d15 d16 x17 x18 d19 x20 x22 (2 : Int32) r X eT N hsz A_a61 g_a61 hr
      · rw [if_neg hc81] at hr
        refine o_icmpYes X hx (hb hby at_412) (c_feq hc81).2 (pc' := 421) (by decide) (by decide) ?_
        exact b0_421b hx hZ hw hby hml hown hnm hret hlk a61 c_a61 d0 d1 d2 d3 d5 d6 d7 d8 x9 x10 d11 d12 d14 d15 d16 x17 x18 d19 x20 x22 r X eT N hsz A_a61 g_a61 hr
    · rw [if_neg hc80] at hr
      refine o_icmpYes X hx (hb hby at_405) (c_feq hc80).2 (pc' := 421) (by decide) (by decide) ?_
      exact b0_421b hx hZ hw hby hml hown hnm hret hlk a61 c_a61 d0 d1 d2 d3 d5 d6 d7 d8 x9 x10 d11 d12 d14 d15 d16 x17 x18 d19 x20 x22 r X eT N hsz A_a61 g_a61 hr
  · rw [if_neg hc79] at hr
    refine o_icmpYes X hx (hb hby at_398) (c_fgt hc79).2 (pc' := 421) (by decide) (by decide) ?_
    exact b0_421b hx hZ hw hby hml hown hnm hret hlk a61 c_a61 d0 d1 d2 d3 d5 d6 d7 d8 x9 x10 d11 d12 d14 d15 d16 x17 x18 d19 x20 x22 r X eT N hsz A_a61 g_a61 hr
def f0_358b (c_a61 : (Nat → Int32)) (x7 : Int32) (x9 : Int32) (x10 : Int32) (x11 : Int32) (x17 : Int32) (x18 : Int32) (x19 : Int32) (x20 : Int64) : Option (Int32) := (if (3 : Int32) < x7 then (if x19 = x9 then (if x18 = x10 then (if x17 = x11 then (f0_443b c_a61 x20 (3 : Int32)) else (f0_395b c_a61 x9 x10 x17 x18 x20 x7)) else (f0_395b c_a61 x9 x10 x17 x18 x20 x7)) else (f0_395b c_a61 x9 x10 x17 x18 x20 x7)) else (f0_395b c_a61 x9 x10 x17 x18 x20 x7))
set_option maxRecDepth 65536 in
set_option maxHeartbeats 40000000 in
theorem b0_358b {p : Program} {l : Launch} {e : Env} {s : State} {m : MethodId} {args : Array Value} {below : List Frame} {meth : Method} {c : Code} {Z : State} {a0 : Array Value} {n0 : Nat} (hx : p.tables.exec = Jvm.exec) (hZ : Z.Warmed39 s.vm) (hw : ∀ d ∈ tables_1, d.before a0 Z = true) (hby : c.code = code) (hml : c.maxLocals = 25) (hown : s.vm.findClass "com/example/once_match/oncematch/PrefixRegisterStateAtEndPinLaw" = some m.cls) (hnm : meth.name = "law") (hret : meth.sig.returnType = some .boolean) (hlk : meth.locks = false)  {T : State} {locs : List Loc} {h : Heap} (a61 : Addr) (c_a61 : Nat → Int32) (d0 : Int32) (d1 : Int32) (d2 : Int32) (d3 : Int64) (d5 : Int32) (d6 : Int32) (x7 : Int32) (d8 : Int32) (x9 : Int32) (x10 : Int32) (x11 : Int32) (d12 : Int32) (d14 : Int32) (d15 : Int32) (d16 : Int32) (x17 : Int32) (x18 : Int32) (x19 : Int32) (x20 : Int64) (r : Int32) (X : Stand p l e room_1 s m args below meth c T locs 1 3) (eT : T.heap = h) (N : Fr n0 locs) (hsz : n0 ≤ h.size) (A_a61 : OAr Z h a61 .char 3 (ci c_a61)) (g_a61 : n0 ≤ a61) (hr : f0_358b c_a61 x7 x9 x10 x11 x17 x18 x19 x20 = some r) :
    OG p e below s (fun v h L => v = (some (.int r)) ∧ Fr n0 L) 16 128 T (mkF m 358 #[.val (.int d0), .val (.int d1), .val (.int d2), .val (.long d3), .second, .val (.int d5), .val (.int d6), .val (.int x7), .val (.int d8), .val (.int x9), .val (.int x10), .val (.int x11), .val (.int d12), .val (.ref a61), .val (.int d14), .val (.int d15), .val (.int d16), .val (.int x17), .val (.int x18), .val (.int x19), .val (.long x20), .second, .unset, .unset, .unset] []) := by
  have hr : (if (3 : Int32) < x7 then (if x19 = x9 then (if x18 = x10 then (if x17 = x11 then (f0_443b c_a61 x20 (3 : Int32)) else (f0_395b c_a61 x9 x10 x17 x18 x20 x7)) else (f0_395b c_a61 x9 x10 x17 x18 x20 x7)) else (f0_395b c_a61 x9 x10 x17 x18 x20 x7)) else (f0_395b c_a61 x9 x10 x17 x18 x20 x7)) = some r := hr
  refine o_iload X hx (hb hby at_358) rfl (pc' := 360) rfl ?_
  refine o_istore X hx (hb hby at_360) #[.val (.int d0), .val (.int d1), .val (.int d2), .val (.long d3), .second, .val (.int d5), .val (.int d6), .val (.int x7), .val (.int d8), .val (.int x9), .val (.int x10), .val (.int x11), .val (.int d12), .val (.ref a61), .val (.int d14), .val (.int d15), .val (.int d16), .val (.int x17), .val (.int x18), .val (.int x19), .val (.long x20), .second, .val (.int x7), .unset, .unset] rfl (pc' := 362) rfl ?_
  refine o_iload X hx (hb hby at_362) rfl (pc' := 364) rfl ?_
  refine o_iconst X hx (hb hby at_364) (3 : Int32) rfl (pc' := 365) rfl ?_
  by_cases hc71 : (3 : Int32) < x7
  · rw [if_pos hc71] at hr
    refine o_icmpNo X hx (hb hby at_365) (c_tgt hc71).2 (pc' := 368) rfl ?_
    refine o_iload X hx (hb hby at_368) rfl (pc' := 370) rfl ?_
    refine o_iload X hx (hb hby at_370) rfl (pc' := 372) rfl ?_
    by_cases hc72 : x19 = x9
    · rw [if_pos hc72] at hr
      refine o_icmpNo X hx (hb hby at_372) (c_teq hc72).2 (pc' := 375) rfl ?_
      refine o_iload X hx (hb hby at_375) rfl (pc' := 377) rfl ?_
      refine o_iload X hx (hb hby at_377) rfl (pc' := 379) rfl ?_
      by_cases hc73 : x18 = x10
      · rw [if_pos hc73] at hr
        refine o_icmpNo X hx (hb hby at_379) (c_teq hc73).2 (pc' := 382) rfl ?_
        refine o_iload X hx (hb hby at_382) rfl (pc' := 384) rfl ?_
        refine o_iload X hx (hb hby at_384) rfl (pc' := 386) rfl ?_
        by_cases hc74 : x17 = x11
        · rw [if_pos hc74] at hr
          refine o_icmpNo X hx (hb hby at_386) (c_teq hc74).2 (pc' := 389) rfl ?_
          refine o_iconst X hx (hb hby at_389) (3 : Int32) rfl (pc' := 390) rfl ?_
          refine o_istore X hx (hb hby at_390) #[.val (.int d0), .val (.int d1), .val (.int d2), .val (.long d3), .second, .val (.int d5), .val (.int d6), .val (.int x7), .val (.int d8), .val (.int x9), .val (.int x10), .val (.int x11), .val (.int d12), .val (.ref a61), .val (.int d14), .val (.int d15), .val (.int d16), .val (.int x17), .val (.int x18), .val (.int x19), .val (.long x20), .second, .val (.int x7), .val (.int (3 : Int32)), .unset] rfl (pc' := 392) rfl ?_
          refine o_goto X hx (hb hby at_392) (pc' := 443) (by decide) (by decide) ?_
          exact b0_443b hx hZ hw hby hml hown hnm hret hlk a61 c_a61 d0 d1 d2 d3 d5 d6 x7 d8 x9 x10 x11 d12 d14 d15 d16 x17 x18 x19 x20 x7 (3 : Int32) r X eT N hsz A_a61 g_a61 hr
        · rw [if_neg hc74] at hr
          refine o_icmpYes X hx (hb hby at_386) (c_feq hc74).2 (pc' := 395) (by decide) (by decide) ?_
          exact b0_395b hx hZ hw hby hml hown hnm hret hlk a61 c_a61 d0 d1 d2 d3 d5 d6 x7 d8 x9 x10 x11 d12 d14 d15 d16 x17 x18 x19 x20 x7 r X eT N hsz A_a61 g_a61 hr
      · rw [if_neg hc73] at hr
        refine o_icmpYes X hx (hb hby at_379) (c_feq hc73).2 (pc' := 395) (by decide) (by decide) ?_
        exact b0_395b hx hZ hw hby hml hown hnm hret hlk a61 c_a61 d0 d1 d2 d3 d5 d6 x7 d8 x9 x10 x11 d12 d14 d15 d16 x17 x18 x19 x20 x7 r X eT N hsz A_a61 g_a61 hr
    · rw [if_neg hc72] at hr
      refine o_icmpYes X hx (hb hby at_372) (c_feq hc72).2 (pc' := 395) (by decide) (by decide) ?_
      exact b0_395b hx hZ hw hby hml hown hnm hret hlk a61 c_a61 d0 d1 d2 d3 d5 d6 x7 d8 x9 x10 x11 d12 d14 d15 d16 x17 x18 x19 x20 x7 r X eT N hsz A_a61 g_a61 hr
  · rw [if_neg hc71] at hr
    refine o_icmpYes X hx (hb hby at_365) (c_fgt hc71).2 (pc' := 395) (by decide) (by decide) ?_
    exact b0_395b hx hZ hw hby hml hown hnm hret hlk a61 c_a61 d0 d1 d2 d3 d5 d6 x7 d8 x9 x10 x11 d12 d14 d15 d16 x17 x18 x19 x20 x7 r X eT N hsz A_a61 g_a61 hr
def f0_330b (c_a61 : (Nat → Int32)) (x3 : Int64) (x7 : Int32) (x9 : Int32) (x10 : Int32) (x11 : Int32) (x15 : Int32) (x17 : Int32) (x18 : Int32) (x19 : Int32) : Option (Int32) := (f0_358b c_a61 x7 x9 x10 x11 x17 x18 x19 ((((x3 <<< (((3 : Int32) * x15) &&& 0x3f).toInt64) ||| ((x19.toInt64) <<< (((2 : Int32) * x15) &&& 0x3f).toInt64)) ||| ((x18.toInt64) <<< (x15 &&& 0x3f).toInt64)) ||| (x17.toInt64)))
set_option maxRecDepth 65536 in
set_option maxHeartbeats 40000000 in
theorem b0_330b {p : Program} {l : Launch} {e : Env} {s : State} {m : MethodId} {args : Array Value} {below : List Frame} {meth : Method} {c : Code} {Z : State} {a0 : Array Value} {n0 : Nat} (hx : p.tables.exec = Jvm.exec) (hZ : Z.Warmed39 s.vm) (hw : ∀ d ∈ tables_1, d.before a0 Z = true) (hby : c.code = code) (hml : c.maxLocals = 25) (hown : s.vm.findClass "com/example/once_match/oncematch/PrefixRegisterStateAtEndPinLaw" = some m.cls) (hnm : meth.name = "law") (hret : meth.sig.returnType = some .boolean) (hlk : meth.locks = false)  {T : State} {locs : List Loc} {h : Heap} (a61 : Addr) (c_a61 : Nat → Int32) (d0 : Int32) (d1 : Int32) (d2 : Int32) (x3 : Int64) (d5 : Int32) (d6 : Int32) (x7 : Int32) (d8 : Int32) (x9 : Int32) (x10 : Int32) (x11 : Int32) (d12 : Int32) (d14 : Int32) (x15 : Int32) (d16 : Int32) (x17 : Int32) (x18 : Int32) (x19 : Int32) (r : Int32) (X : Stand p l e room_1 s m args below meth c T locs 1 3) (eT : T.heap = h) (N : Fr n0 locs) (hsz : n0 ≤ h.size) (A_a61 : OAr Z h a61 .char 3 (ci c_a61)) (g_a61 : n0 ≤ a61) (hr : f0_330b c_a61 x3 x7 x9 x10 x11 x15 x17 x18 x19 = some r) :
    OG p e below s (fun v h L => v = (some (.int r)) ∧ Fr n0 L) 16 128 T (mkF m 330 #[.val (.int d0), .val (.int d1), .val (.int d2), .val (.long x3), .second, .val (.int d5), .val (.int d6), .val (.int x7), .val (.int d8), .val (.int x9), .val (.int x10), .val (.int x11), .val (.int d12), .val (.ref a61), .val (.int d14), .val (.int x15), .val (.int d16), .val (.int x17), .val (.int x18), .val (.int x19), .unset, .unset, .unset, .unset, .unset] []) := by
  have hr : (f0_358b c_a61 x7 x9 x10 x11 x17 x18 x19 ((((x3 <<< (((3 : Int32) * x15) &&& 0x3f).toInt64) ||| ((x19.toInt64) <<< (((2 : Int32) * x15) &&& 0x3f).toInt64)) ||| ((x18.toInt64) <<< (x15 &&& 0x3f).toInt64)) ||| (x17.toInt64))) = some r := hr
  refine o_lload_n X hx (hb hby at_330) rfl (pc' := 331) rfl ?_
  refine o_iconst X hx (hb hby at_331) (3 : Int32) rfl (pc' := 332) rfl ?_
  refine o_iload X hx (hb hby at_332) rfl (pc' := 334) rfl ?_
  refine o_imul X hx (hb hby at_334) (pc' := 335) rfl ?_
  refine o_lshl X hx (hb hby at_335) (pc' := 336) rfl ?_
  refine o_iload X hx (hb hby at_336) rfl (pc' := 338) rfl ?_
  refine o_i2l X hx (hb hby at_338) (pc' := 339) rfl ?_
  refine o_iconst X hx (hb hby at_339) (2 : Int32) rfl (pc' := 340) rfl ?_
  refine o_iload X hx (hb hby at_340) rfl (pc' := 342) rfl ?_
  refine o_imul X hx (hb hby at_342) (pc' := 343) rfl ?_
  refine o_lshl X hx (hb hby at_343) (pc' := 344) rfl ?_
  refine o_lor X hx (hb hby at_344) (pc' := 345) rfl ?_
  refine o_iload X hx (hb hby at_345) rfl (pc' := 347) rfl ?_
  refine o_i2l X hx (hb hby at_347) (pc' := 348) rfl ?_
  refine o_iload X hx (hb hby at_348) rfl (pc' := 350) rfl ?_
  refine o_lshl X hx (hb hby at_350) (pc' := 351) rfl ?_
  refine o_lor X hx (hb hby at_351) (pc' := 352) rfl ?_
  refine o_iload X hx (hb hby at_352) rfl (pc' := 354) rfl ?_
  refine o_i2l X hx (hb hby at_354) (pc' := 355) rfl ?_
  refine o_lor X hx (hb hby at_355) (pc' := 356) rfl ?_
  refine o_lstore X hx (hb hby at_356) #[.val (.int d0), .val (.int d1), .val (.int d2), .val (.long x3), .second, .val (.int d5), .val (.int d6), .val (.int x7), .val (.int d8), .val (.int x9), .val (.int x10), .val (.int x11), .val (.int d12), .val (.ref a61), .val (.int d14), .val (.int x15), .val (.int d16), .val (.int x17), .val (.int x18), .val (.int x19), .val (.long ((((x3 <<< (((3 : Int32) * x15) &&& 0x3f).toInt64) ||| ((x19.toInt64) <<< (((2 : Int32) * x15) &&& 0x3f).toInt64)) ||| ((x18.toInt64) <<< (x15 &&& 0x3f).toInt64)) ||| (x17.toInt64))), .second, .unset, .unset, .unset] rfl (pc' := 358) rfl ?_
  exact b0_358b hx hZ hw hby hml hown hnm hret hlk a61 c_a61 d0 d1 d2 x3 d5 d6 x7 d8 x9 x10 x11 d12 d14 x15 d16 x17 x18 x19 ((((x3 <<< (((3 : Int32) * x15) &&& 0x3f).toInt64) ||| ((x19.toInt64) <<< (((2 : Int32) * x15) &&& 0x3f).toInt64)) ||| ((x18.toInt64) <<< (x15 &&& 0x3f).toInt64)) ||| (x17.toInt64)) r X eT N hsz A_a61 g_a61 hr
def f0_304b (c_a61 : (Nat → Int32)) (x3 : Int64) (x5 : Int32) (x7 : Int32) (x9 : Int32) (x10 : Int32) (x11 : Int32) (x15 : Int32) (x16 : Int32) (x17 : Int32) (x18 : Int32) : Option (Int32) := (f0_330b c_a61 x3 x7 x9 x10 x11 x15 x17 x18 ((f1_0 (((x5.toUInt32 >>> ((7 : Int32) &&& 31).toUInt32).toInt32) &&& (3 : Int32)) x9 x10 x11 ((x5.toUInt32 >>> ((16 : Int32) &&& 31).toUInt32).toInt32)) &&& x16))
set_option maxRecDepth 65536 in
set_option maxHeartbeats 40000000 in
theorem b0_304b {p : Program} {l : Launch} {e : Env} {s : State} {m : MethodId} {args : Array Value} {below : List Frame} {meth : Method} {c : Code} {Z : State} {a0 : Array Value} {n0 : Nat} (hx : p.tables.exec = Jvm.exec) (hZ : Z.Warmed39 s.vm) (hw : ∀ d ∈ tables_1, d.before a0 Z = true) (hby : c.code = code) (hml : c.maxLocals = 25) (hown : s.vm.findClass "com/example/once_match/oncematch/PrefixRegisterStateAtEndPinLaw" = some m.cls) (hnm : meth.name = "law") (hret : meth.sig.returnType = some .boolean) (hlk : meth.locks = false)  {T : State} {locs : List Loc} {h : Heap} (a61 : Addr) (c_a61 : Nat → Int32) (d0 : Int32) (d1 : Int32) (d2 : Int32) (x3 : Int64) (x5 : Int32) (d6 : Int32) (x7 : Int32) (d8 : Int32) (x9 : Int32) (x10 : Int32) (x11 : Int32) (d12 : Int32) (d14 : Int32) (x15 : Int32) (x16 : Int32) (x17 : Int32) (x18 : Int32) (r : Int32) (X : Stand p l e room_1 s m args below meth c T locs 1 3) (eT : T.heap = h) (N : Fr n0 locs) (hsz : n0 ≤ h.size) (A_a61 : OAr Z h a61 .char 3 (ci c_a61)) (g_a61 : n0 ≤ a61) (hr : f0_304b c_a61 x3 x5 x7 x9 x10 x11 x15 x16 x17 x18 = some r) :
    OG p e below s (fun v h L => v = (some (.int r)) ∧ Fr n0 L) 16 128 T (mkF m 304 #[.val (.int d0), .val (.int d1), .val (.int d2), .val (.long x3), .second, .val (.int x5), .val (.int d6), .val (.int x7), .val (.int d8), .val (.int x9), .val (.int x10), .val (.int x11), .val (.int d12), .val (.ref a61), .val (.int d14), .val (.int x15), .val (.int x16), .val (.int x17), .val (.int x18), .unset, .unset, .unset, .unset, .unset, .unset] []) := by
  have hr : (f0_330b c_a61 x3 x7 x9 x10 x11 x15 x17 x18 ((f1_0 (((x5.toUInt32 >>> ((7 : Int32) &&& 31).toUInt32).toInt32) &&& (3 : Int32)) x9 x10 x11 ((x5.toUInt32 >>> ((16 : Int32) &&& 31).toUInt32).toInt32)) &&& x16)) = some r := hr
  refine o_iload X hx (hb hby at_304) rfl (pc' := 306) rfl ?_
  refine o_bipush X hx (hb hby at_306) (7 : Int32) rfl (pc' := 308) rfl ?_
  refine o_iushr X hx (hb hby at_308) (pc' := 309) rfl ?_
  refine o_iconst X hx (hb hby at_309) (3 : Int32) rfl (pc' := 310) rfl ?_
  refine o_iand X hx (hb hby at_310) (pc' := 311) rfl ?_
  refine o_iload X hx (hb hby at_311) rfl (pc' := 313) rfl ?_
  refine o_iload X hx (hb hby at_313) rfl (pc' := 315) rfl ?_
  refine o_iload X hx (hb hby at_315) rfl (pc' := 317) rfl ?_
  refine o_iload X hx (hb hby at_317) rfl (pc' := 319) rfl ?_
  refine o_bipush X hx (hb hby at_319) (16 : Int32) rfl (pc' := 321) rfl ?_
  refine o_iushr X hx (hb hby at_321) (pc' := 322) rfl ?_
  refine o_callS X hx hZ (argsL := [(.int (((x5.toUInt32 >>> ((7 : Int32) &&& 31).toUInt32).toInt32) &&& (3 : Int32))), (.int x9), (.int x10), (.int x11), (.int ((x5.toUInt32 >>> ((16 : Int32) &&& 31).toUInt32).toInt32))]) (rest := []) 0 hown eT (hw _ (List.mem_of_getElem? (i := 2) rfl)) (hw _ (List.mem_of_getElem? (i := 3) rfl)) (hw _ (List.mem_of_getElem? (i := 4) rfl)) (hw _ (List.mem_of_getElem? (i := 5) rfl)) (by decide) (rm1 l Z a0 hw [] (((x5.toUInt32 >>> ((7 : Int32) &&& 31).toUInt32).toInt32) &&& (3 : Int32)) x9 x10 x11 ((x5.toUInt32 >>> ((16 : Int32) &&& 31).toUInt32).toInt32) h n0 hsz (f1_0 (((x5.toUInt32 >>> ((7 : Int32) &&& 31).toUInt32).toInt32) &&& (3 : Int32)) x9 x10 x11 ((x5.toUInt32 >>> ((16 : Int32) &&& 31).toUInt32).toInt32)) rfl) (by decide) (by decide) (by rw [hml]; rfl) (lenOf pd_3 rfl) rfl (Nat.le_refl _) (hb hby at_322) (pc' := 325) rfl (by decide) (by decide) ?_
  rintro _ T70 L70 X70 ⟨rfl, N70, e70⟩
  replace X70 : Stand p l e room_1 s m args below meth c T70 (locs ++ L70) 1 3 := X70
  have M70 := Fr.app N N70
  dsimp only [Option.toList, List.cons_append, List.nil_append]
  refine o_iload X70 hx (hb hby at_325) rfl (pc' := 327) rfl ?_
  refine o_iand X70 hx (hb hby at_327) (pc' := 328) rfl ?_
  refine o_istore X70 hx (hb hby at_328) #[.val (.int d0), .val (.int d1), .val (.int d2), .val (.long x3), .second, .val (.int x5), .val (.int d6), .val (.int x7), .val (.int d8), .val (.int x9), .val (.int x10), .val (.int x11), .val (.int d12), .val (.ref a61), .val (.int d14), .val (.int x15), .val (.int x16), .val (.int x17), .val (.int x18), .val (.int ((f1_0 (((x5.toUInt32 >>> ((7 : Int32) &&& 31).toUInt32).toInt32) &&& (3 : Int32)) x9 x10 x11 ((x5.toUInt32 >>> ((16 : Int32) &&& 31).toUInt32).toInt32)) &&& x16)), .unset, .unset, .unset, .unset, .unset] rfl (pc' := 330) rfl ?_
  exact b0_330b hx hZ hw hby hml hown hnm hret hlk a61 c_a61 d0 d1 d2 x3 x5 d6 x7 d8 x9 x10 x11 d12 d14 x15 x16 x17 x18 ((f1_0 (((x5.toUInt32 >>> ((7 : Int32) &&& 31).toUInt32).toInt32) &&& (3 : Int32)) x9 x10 x11 ((x5.toUInt32 >>> ((16 : Int32) &&& 31).toUInt32).toInt32)) &&& x16) r X70 e70 M70 hsz A_a61 g_a61 hr
def f0_280b (c_a61 : (Nat → Int32)) (x2 : Int32) (x3 : Int64) (x5 : Int32) (x7 : Int32) (x9 : Int32) (x10 : Int32) (x11 : Int32) (x15 : Int32) (x16 : Int32) (x17 : Int32) : Option (Int32) := (f0_304b c_a61 x3 x5 x7 x9 x10 x11 x15 x16 x17 ((f1_0 (((x5.toUInt32 >>> ((5 : Int32) &&& 31).toUInt32).toInt32) &&& (3 : Int32)) x9 x10 x11 ((x2.toUInt32 >>> ((16 : Int32) &&& 31).toUInt32).toInt32)) &&& x16))
set_option maxRecDepth 65536 in
set_option maxHeartbeats 40000000 in
theorem b0_280b {p : Program} {l : Launch} {e : Env} {s : State} {m : MethodId} {args : Array Value} {below : List Frame} {meth : Method} {c : Code} {Z : State} {a0 : Array Value} {n0 : Nat} (hx : p.tables.exec = Jvm.exec) (hZ : Z.Warmed39 s.vm) (hw : ∀ d ∈ tables_1, d.before a0 Z = true) (hby : c.code = code) (hml : c.maxLocals = 25) (hown : s.vm.findClass "com/example/once_match/oncematch/PrefixRegisterStateAtEndPinLaw" = some m.cls) (hnm : meth.name = "law") (hret : meth.sig.returnType = some .boolean) (hlk : meth.locks = false)  {T : State} {locs : List Loc} {h : Heap} (a61 : Addr) (c_a61 : Nat → Int32) (d0 : Int32) (d1 : Int32) (x2 : Int32) (x3 : Int64) (x5 : Int32) (d6 : Int32) (x7 : Int32) (d8 : Int32) (x9 : Int32) (x10 : Int32) (x11 : Int32) (d12 : Int32) (d14 : Int32) (x15 : Int32) (x16 : Int32) (x17 : Int32) (r : Int32) (X : Stand p l e room_1 s m args below meth c T locs 1 3) (eT : T.heap = h) (N : Fr n0 locs) (hsz : n0 ≤ h.size) (A_a61 : OAr Z h a61 .char 3 (ci c_a61)) (g_a61 : n0 ≤ a61) (hr : f0_280b c_a61 x2 x3 x5 x7 x9 x10 x11 x15 x16 x17 = some r) :
    OG p e below s (fun v h L => v = (some (.int r)) ∧ Fr n0 L) 16 128 T (mkF m 280 #[.val (.int d0), .val (.int d1), .val (.int x2), .val (.long x3), .second, .val (.int x5), .val (.int d6), .val (.int x7), .val (.int d8), .val (.int x9), .val (.int x10), .val (.int x11), .val (.int d12), .val (.ref a61), .val (.int d14), .val (.int x15), .val (.int x16), .val (.int x17), .unset, .unset, .unset, .unset, .unset, .unset, .unset] []) := by
  have hr : (f0_304b c_a61 x3 x5 x7 x9 x10 x11 x15 x16 x17 ((f1_0 (((x5.toUInt32 >>> ((5 : Int32) &&& 31).toUInt32).toInt32) &&& (3 : Int32)) x9 x10 x11 ((x2.toUInt32 >>> ((16 : Int32) &&& 31).toUInt32).toInt32)) &&& x16)) = some r := hr
  refine o_iload X hx (hb hby at_280) rfl (pc' := 282) rfl ?_
  refine o_iconst X hx (hb hby at_282) (5 : Int32) rfl (pc' := 283) rfl ?_
  refine o_iushr X hx (hb hby at_283) (pc' := 284) rfl ?_
  refine o_iconst X hx (hb hby at_284) (3 : Int32) rfl (pc' := 285) rfl ?_
  refine o_iand X hx (hb hby at_285) (pc' := 286) rfl ?_
  refine o_iload X hx (hb hby at_286) rfl (pc' := 288) rfl ?_
  refine o_iload X hx (hb hby at_288) rfl (pc' := 290) rfl ?_
  refine o_iload X hx (hb hby at_290) rfl (pc' := 292) rfl ?_
  refine o_iload_n X hx (hb hby at_292) rfl (pc' := 293) rfl ?_
  refine o_bipush X hx (hb hby at_293) (16 : Int32) rfl (pc' := 295) rfl ?_
  refine o_iushr X hx (hb hby at_295) (pc' := 296) rfl ?_
  refine o_callS X hx hZ (argsL := [(.int (((x5.toUInt32 >>> ((5 : Int32) &&& 31).toUInt32).toInt32) &&& (3 : Int32))), (.int x9), (.int x10), (.int x11), (.int ((x2.toUInt32 >>> ((16 : Int32) &&& 31).toUInt32).toInt32))]) (rest := []) 0 hown eT (hw _ (List.mem_of_getElem? (i := 2) rfl)) (hw _ (List.mem_of_getElem? (i := 3) rfl)) (hw _ (List.mem_of_getElem? (i := 4) rfl)) (hw _ (List.mem_of_getElem? (i := 5) rfl)) (by decide) (rm1 l Z a0 hw [] (((x5.toUInt32 >>> ((5 : Int32) &&& 31).toUInt32).toInt32) &&& (3 : Int32)) x9 x10 x11 ((x2.toUInt32 >>> ((16 : Int32) &&& 31).toUInt32).toInt32) h n0 hsz (f1_0 (((x5.toUInt32 >>> ((5 : Int32) &&& 31).toUInt32).toInt32) &&& (3 : Int32)) x9 x10 x11 ((x2.toUInt32 >>> ((16 : Int32) &&& 31).toUInt32).toInt32)) rfl) (by decide) (by decide) (by rw [hml]; rfl) (lenOf pd_3 rfl) rfl (Nat.le_refl _) (hb hby at_296) (pc' := 299) rfl (by decide) (by decide) ?_
  rintro _ T69 L69 X69 ⟨rfl, N69, e69⟩
  replace X69 : Stand p l e room_1 s m args below meth c T69 (locs ++ L69) 1 3 := X69
  have M69 := Fr.app N N69
  dsimp only [Option.toList, List.cons_append, List.nil_append]
  refine o_iload X69 hx (hb hby at_299) rfl (pc' := 301) rfl ?_
  refine o_iand X69 hx (hb hby at_301) (pc' := 302) rfl ?_
  refine o_istore X69 hx (hb hby at_302) #[.val (.int d0), .val (.int d1), .val (.int x2), .val (.long x3), .second, .val (.int x5), .val (.int d6), .val (.int x7), .val (.int d8), .val (.int x9), .val (.int x10), .val (.int x11), .val (.int d12), .val (.ref a61), .val (.int d14), .val (.int x15), .val (.int x16), .val (.int x17), .val (.int ((f1_0 (((x5.toUInt32 >>> ((5 : Int32) &&& 31).toUInt32).toInt32) &&& (3 : Int32)) x9 x10 x11 ((x2.toUInt32 >>> ((16 : Int32) &&& 31).toUInt32).toInt32)) &&& x16)), .unset, .unset, .unset, .unset, .unset, .unset] rfl (pc' := 304) rfl ?_
  exact b0_304b hx hZ hw hby hml hown hnm hret hlk a61 c_a61 d0 d1 x2 x3 x5 d6 x7 d8 x9 x10 x11 d12 d14 x15 x16 x17 ((f1_0 (((x5.toUInt32 >>> ((5 : Int32) &&& 31).toUInt32).toInt32) &&& (3 : Int32)) x9 x10 x11 ((x2.toUInt32 >>> ((16 : Int32) &&& 31).toUInt32).toInt32)) &&& x16) r X69 e69 M69 hsz A_a61 g_a61 hr
def f0_254b (c_a61 : (Nat → Int32)) (x2 : Int32) (x3 : Int64) (x5 : Int32) (x7 : Int32) (x9 : Int32) (x10 : Int32) (x11 : Int32) (x15 : Int32) (t0 : Int32) : Option (Int32) := (f0_280b c_a61 x2 x3 x5 x7 x9 x10 x11 x15 t0 ((f1_0 (((x5.toUInt32 >>> ((3 : Int32) &&& 31).toUInt32).toInt32) &&& (3 : Int32)) x9 x10 x11 (x2 &&& (65535 : Int32))) &&& t0))
set_option maxRecDepth 65536 in
set_option maxHeartbeats 40000000 in
theorem b0_254b {p : Program} {l : Launch} {e : Env} {s : State} {m : MethodId} {args : Array Value} {below : List Frame} {meth : Method} {c : Code} {Z : State} {a0 : Array Value} {n0 : Nat} (hx : p.tables.exec = Jvm.exec) (hZ : Z.Warmed39 s.vm) (hw : ∀ d ∈ tables_1, d.before a0 Z = true) (hby : c.code = code) (hml : c.maxLocals = 25) (hown : s.vm.findClass "com/example/once_match/oncematch/PrefixRegisterStateAtEndPinLaw" = some m.cls) (hnm : meth.name = "law") (hret : meth.sig.returnType = some .boolean) (hlk : meth.locks = false)  {T : State} {locs : List Loc} {h : Heap} (a61 : Addr) (c_a61 : Nat → Int32) (d0 : Int32) (d1 : Int32) (x2 : Int32) (x3 : Int64) (x5 : Int32) (d6 : Int32) (x7 : Int32) (d8 : Int32) (x9 : Int32) (x10 : Int32) (x11 : Int32) (d12 : Int32) (d14 : Int32) (x15 : Int32) (t0 : Int32) (r : Int32) (X : Stand p l e room_1 s m args below meth c T locs 1 3) (eT : T.heap = h) (N : Fr n0 locs) (hsz : n0 ≤ h.size) (A_a61 : OAr Z h a61 .char 3 (ci c_a61)) (g_a61 : n0 ≤ a61) (hr : f0_254b c_a61 x2 x3 x5 x7 x9 x10 x11 x15 t0 = some r) :
    OG p e below s (fun v h L => v = (some (.int r)) ∧ Fr n0 L) 16 128 T (mkF m 254 #[.val (.int d0), .val (.int d1), .val (.int x2), .val (.long x3), .second, .val (.int x5), .val (.int d6), .val (.int x7), .val (.int d8), .val (.int x9), .val (.int x10), .val (.int x11), .val (.int d12), .val (.ref a61), .val (.int d14), .val (.int x15), .unset, .unset, .unset, .unset, .unset, .unset, .unset, .unset, .unset] [(.int t0)]) := by
  have hr : (f0_280b c_a61 x2 x3 x5 x7 x9 x10 x11 x15 t0 ((f1_0 (((x5.toUInt32 >>> ((3 : Int32) &&& 31).toUInt32).toInt32) &&& (3 : Int32)) x9 x10 x11 (x2 &&& (65535 : Int32))) &&& t0)) = some r := hr
  refine o_istore X hx (hb hby at_254) #[.val (.int d0), .val (.int d1), .val (.int x2), .val (.long x3), .second, .val (.int x5), .val (.int d6), .val (.int x7), .val (.int d8), .val (.int x9), .val (.int x10), .val (.int x11), .val (.int d12), .val (.ref a61), .val (.int d14), .val (.int x15), .val (.int t0), .unset, .unset, .unset, .unset, .unset, .unset, .unset, .unset] rfl (pc' := 256) rfl ?_
  refine o_iload X hx (hb hby at_256) rfl (pc' := 258) rfl ?_
  refine o_iconst X hx (hb hby at_258) (3 : Int32) rfl (pc' := 259) rfl ?_
  refine o_iushr X hx (hb hby at_259) (pc' := 260) rfl ?_
  refine o_iconst X hx (hb hby at_260) (3 : Int32) rfl (pc' := 261) rfl ?_
  refine o_iand X hx (hb hby at_261) (pc' := 262) rfl ?_
  refine o_iload X hx (hb hby at_262) rfl (pc' := 264) rfl ?_
  refine o_iload X hx (hb hby at_264) rfl (pc' := 266) rfl ?_
  refine o_iload X hx (hb hby at_266) rfl (pc' := 268) rfl ?_
  refine o_iload_n X hx (hb hby at_268) rfl (pc' := 269) rfl ?_
  refine o_ldcInt X hx hZ hown (hb hby at_269) (hw _ (List.mem_of_getElem? (i := 0) rfl)) (pc' := 271) rfl ?_
  refine o_iand X hx (hb hby at_271) (pc' := 272) rfl ?_
  refine o_callS X hx hZ (argsL := [(.int (((x5.toUInt32 >>> ((3 : Int32) &&& 31).toUInt32).toInt32) &&& (3 : Int32))), (.int x9), (.int x10), (.int x11), (.int (x2 &&& (65535 : Int32)))]) (rest := []) 0 hown eT (hw _ (List.mem_of_getElem? (i := 2) rfl)) (hw _ (List.mem_of_getElem? (i := 3) rfl)) (hw _ (List.mem_of_getElem? (i := 4) rfl)) (hw _ (List.mem_of_getElem? (i := 5) rfl)) (by decide) (rm1 l Z a0 hw [] (((x5.toUInt32 >>> ((3 : Int32) &&& 31).toUInt32).toInt32) &&& (3 : Int32)) x9 x10 x11 (x2 &&& (65535 : Int32)) h n0 hsz (f1_0 (((x5.toUInt32 >>> ((3 : Int32) &&& 31).toUInt32).toInt32) &&& (3 : Int32)) x9 x10 x11 (x2 &&& (65535 : Int32))) rfl) (by decide) (by decide) (by rw [hml]; rfl) (lenOf pd_3 rfl) rfl (Nat.le_refl _) (hb hby at_272) (pc' := 275) rfl (by decide) (by decide) ?_
  rintro _ T68 L68 X68 ⟨rfl, N68, e68⟩
  replace X68 : Stand p l e room_1 s m args below meth c T68 (locs ++ L68) 1 3 := X68
  have M68 := Fr.app N N68
  dsimp only [Option.toList, List.cons_append, List.nil_append]
  refine o_iload X68 hx (hb hby at_275) rfl (pc' := 277) rfl ?_
  refine o_iand X68 hx (hb hby at_277) (pc' := 278) rfl ?_
  refine o_istore X68 hx (hb hby at_278) #[.val (.int d0), .val (.int d1), .val (.int x2), .val (.long x3), .second, .val (.int x5), .val (.int d6), .val (.int x7), .val (.int d8), .val (.int x9), .val (.int x10), .val (.int x11), .val (.int d12), .val (.ref a61), .val (.int d14), .val (.int x15), .val (.int t0), .val (.int ((f1_0 (((x5.toUInt32 >>> ((3 : Int32) &&& 31).toUInt32).toInt32) &&& (3 : Int32)) x9 x10 x11 (x2 &&& (65535 : Int32))) &&& t0)), .unset, .unset, .unset, .unset, .unset, .unset, .unset] rfl (pc' := 280) rfl ?_
  exact b0_280b hx hZ hw hby hml hown hnm hret hlk a61 c_a61 d0 d1 x2 x3 x5 d6 x7 d8 x9 x10 x11 d12 d14 x15 t0 ((f1_0 (((x5.toUInt32 >>> ((3 : Int32) &&& 31).toUInt32).toInt32) &&& (3 : Int32)) x9 x10 x11 (x2 &&& (65535 : Int32))) &&& t0) r X68 e68 M68 hsz A_a61 g_a61 hr
def f0_239b (c_a61 : (Nat → Int32)) (x2 : Int32) (x3 : Int64) (x5 : Int32) (x7 : Int32) (x9 : Int32) (x10 : Int32) (x11 : Int32) (x14 : Int32) (t0 : Int32) : Option (Int32) := (if x14 = (0 : Int32) then (f0_254b c_a61 x2 x3 x5 x7 x9 x10 x11 t0 (65535 : Int32)) else (f0_254b c_a61 x2 x3 x5 x7 x9 x10 x11 t0 (255 : Int32)))
set_option maxRecDepth 65536 in
set_option maxHeartbeats 40000000 in
theorem b0_239b {p : Program} {l : Launch} {e : Env} {s : State} {m : MethodId} {args : Array Value} {below : List Frame} {meth : Method} {c : Code} {Z : State} {a0 : Array Value} {n0 : Nat} (hx : p.tables.exec = Jvm.exec) (hZ : Z.Warmed39 s.vm) (hw : ∀ d ∈ tables_1, d.before a0 Z = true) (hby : c.code = code) (hml : c.maxLocals = 25) (hown : s.vm.findClass "com/example/once_match/oncematch/PrefixRegisterStateAtEndPinLaw" = some m.cls) (hnm : meth.name = "law") (hret : meth.sig.returnType = some .boolean) (hlk : meth.locks = false)  {T : State} {locs : List Loc} {h : Heap} (a61 : Addr) (c_a61 : Nat → Int32) (d0 : Int32) (d1 : Int32) (x2 : Int32) (x3 : Int64) (x5 : Int32) (d6 : Int32) (x7 : Int32) (d8 : Int32) (x9 : Int32) (x10 : Int32) (x11 : Int32) (d12 : Int32) (x14 : Int32) (t0 : Int32) (r : Int32) (X : Stand p l e room_1 s m args below meth c T locs 1 3) (eT : T.heap = h) (N : Fr n0 locs) (hsz : n0 ≤ h.size) (A_a61 : OAr Z h a61 .char 3 (ci c_a61)) (g_a61 : n0 ≤ a61) (hr : f0_239b c_a61 x2 x3 x5 x7 x9 x10 x11 x14 t0 = some r) :
    OG p e below s (fun v h L => v = (some (.int r)) ∧ Fr n0 L) 16 128 T (mkF m 239 #[.val (.int d0), .val (.int d1), .val (.int x2), .val (.long x3), .second, .val (.int x5), .val (.int d6), .val (.int x7), .val (.int d8), .val (.int x9), .val (.int x10), .val (.int x11), .val (.int d12), .val (.ref a61), .val (.int x14), .unset, .unset, .unset, .unset, .unset, .unset, .unset, .unset, .unset, .unset] [(.int t0)]) := by
  have hr : (if x14 = (0 : Int32) then (f0_254b c_a61 x2 x3 x5 x7 x9 x10 x11 t0 (65535 : Int32)) else (f0_254b c_a61 x2 x3 x5 x7 x9 x10 x11 t0 (255 : Int32))) = some r := hr
  refine o_istore X hx (hb hby at_239) #[.val (.int d0), .val (.int d1), .val (.int x2), .val (.long x3), .second, .val (.int x5), .val (.int d6), .val (.int x7), .val (.int d8), .val (.int x9), .val (.int x10), .val (.int x11), .val (.int d12), .val (.ref a61), .val (.int x14), .val (.int t0), .unset, .unset, .unset, .unset, .unset, .unset, .unset, .unset, .unset] rfl (pc' := 241) rfl ?_
  refine o_iload X hx (hb hby at_241) rfl (pc' := 243) rfl ?_
  by_cases hc67 : x14 = (0 : Int32)
  · rw [if_pos hc67] at hr
    refine o_ifYes X hx (hb hby at_243) (z_teq hc67).1 (pc' := 252) (by decide) (by decide) ?_
    refine o_ldcInt X hx hZ hown (hb hby at_252) (hw _ (List.mem_of_getElem? (i := 0) rfl)) (pc' := 254) rfl ?_
    exact b0_254b hx hZ hw hby hml hown hnm hret hlk a61 c_a61 d0 d1 x2 x3 x5 d6 x7 d8 x9 x10 x11 d12 x14 t0 (65535 : Int32) r X eT N hsz A_a61 g_a61 hr
  · rw [if_neg hc67] at hr
    refine o_ifNo X hx (hb hby at_243) (z_feq hc67).1 (pc' := 246) rfl ?_
    refine o_sipush X hx (hb hby at_246) (255 : Int32) rfl (pc' := 249) rfl ?_
    refine o_goto X hx (hb hby at_249) (pc' := 254) (by decide) (by decide) ?_
    exact b0_254b hx hZ hw hby hml hown hnm hret hlk a61 c_a61 d0 d1 x2 x3 x5 d6 x7 d8 x9 x10 x11 d12 x14 t0 (255 : Int32) r X eT N hsz A_a61 g_a61 hr
def f0_225b (c_a61 : (Nat → Int32)) (x2 : Int32) (x3 : Int64) (x5 : Int32) (x7 : Int32) (x9 : Int32) (x10 : Int32) (x11 : Int32) (t0 : Int32) : Option (Int32) := (if t0 = (0 : Int32) then (f0_239b c_a61 x2 x3 x5 x7 x9 x10 x11 t0 (16 : Int32)) else (f0_239b c_a61 x2 x3 x5 x7 x9 x10 x11 t0 (8 : Int32)))
set_option maxRecDepth 65536 in
set_option maxHeartbeats 40000000 in
theorem b0_225b {p : Program} {l : Launch} {e : Env} {s : State} {m : MethodId} {args : Array Value} {below : List Frame} {meth : Method} {c : Code} {Z : State} {a0 : Array Value} {n0 : Nat} (hx : p.tables.exec = Jvm.exec) (hZ : Z.Warmed39 s.vm) (hw : ∀ d ∈ tables_1, d.before a0 Z = true) (hby : c.code = code) (hml : c.maxLocals = 25) (hown : s.vm.findClass "com/example/once_match/oncematch/PrefixRegisterStateAtEndPinLaw" = some m.cls) (hnm : meth.name = "law") (hret : meth.sig.returnType = some .boolean) (hlk : meth.locks = false)  {T : State} {locs : List Loc} {h : Heap} (a61 : Addr) (c_a61 : Nat → Int32) (d0 : Int32) (d1 : Int32) (x2 : Int32) (x3 : Int64) (x5 : Int32) (d6 : Int32) (x7 : Int32) (d8 : Int32) (x9 : Int32) (x10 : Int32) (x11 : Int32) (d12 : Int32) (t0 : Int32) (r : Int32) (X : Stand p l e room_1 s m args below meth c T locs 1 3) (eT : T.heap = h) (N : Fr n0 locs) (hsz : n0 ≤ h.size) (A_a61 : OAr Z h a61 .char 3 (ci c_a61)) (g_a61 : n0 ≤ a61) (hr : f0_225b c_a61 x2 x3 x5 x7 x9 x10 x11 t0 = some r) :
    OG p e below s (fun v h L => v = (some (.int r)) ∧ Fr n0 L) 16 128 T (mkF m 225 #[.val (.int d0), .val (.int d1), .val (.int x2), .val (.long x3), .second, .val (.int x5), .val (.int d6), .val (.int x7), .val (.int d8), .val (.int x9), .val (.int x10), .val (.int x11), .val (.int d12), .val (.ref a61), .unset, .unset, .unset, .unset, .unset, .unset, .unset, .unset, .unset, .unset, .unset] [(.int t0)]) := by
  have hr : (if t0 = (0 : Int32) then (f0_239b c_a61 x2 x3 x5 x7 x9 x10 x11 t0 (16 : Int32)) else (f0_239b c_a61 x2 x3 x5 x7 x9 x10 x11 t0 (8 : Int32))) = some r := hr
  refine o_istore X hx (hb hby at_225) #[.val (.int d0), .val (.int d1), .val (.int x2), .val (.long x3), .second, .val (.int x5), .val (.int d6), .val (.int x7), .val (.int d8), .val (.int x9), .val (.int x10), .val (.int x11), .val (.int d12), .val (.ref a61), .val (.int t0), .unset, .unset, .unset, .unset, .unset, .unset, .unset, .unset, .unset, .unset] rfl (pc' := 227) rfl ?_
  refine o_iload X hx (hb hby at_227) rfl (pc' := 229) rfl ?_
  by_cases hc66 : t0 = (0 : Int32)
  · rw [if_pos hc66] at hr
    refine o_ifYes X hx (hb hby at_229) (z_teq hc66).1 (pc' := 237) (by decide) (by decide) ?_
    refine o_bipush X hx (hb hby at_237) (16 : Int32) rfl (pc' := 239) rfl ?_
    exact b0_239b hx hZ hw hby hml hown hnm hret hlk a61 c_a61 d0 d1 x2 x3 x5 d6 x7 d8 x9 x10 x11 d12 t0 (16 : Int32) r X eT N hsz A_a61 g_a61 hr
  · rw [if_neg hc66] at hr
    refine o_ifNo X hx (hb hby at_229) (z_feq hc66).1 (pc' := 232) rfl ?_
    refine o_bipush X hx (hb hby at_232) (8 : Int32) rfl (pc' := 234) rfl ?_
    refine o_goto X hx (hb hby at_234) (pc' := 239) (by decide) (by decide) ?_
    exact b0_239b hx hZ hw hby hml hown hnm hret hlk a61 c_a61 d0 d1 x2 x3 x5 d6 x7 d8 x9 x10 x11 d12 t0 (8 : Int32) r X eT N hsz A_a61 g_a61 hr
def f0_224b (c_a61 : (Nat → Int32)) (x2 : Int32) (x3 : Int64) (x5 : Int32) (x7 : Int32) (x9 : Int32) (x10 : Int32) (x11 : Int32) : Option (Int32) := (f0_225b c_a61 x2 x3 x5 x7 x9 x10 x11 (0 : Int32))
set_option maxRecDepth 65536 in
set_option maxHeartbeats 40000000 in
theorem b0_224b {p : Program} {l : Launch} {e : Env} {s : State} {m : MethodId} {args : Array Value} {below : List Frame} {meth : Method} {c : Code} {Z : State} {a0 : Array Value} {n0 : Nat} (hx : p.tables.exec = Jvm.exec) (hZ : Z.Warmed39 s.vm) (hw : ∀ d ∈ tables_1, d.before a0 Z = true) (hby : c.code = code) (hml : c.maxLocals = 25) (hown : s.vm.findClass "com/example/once_match/oncematch/PrefixRegisterStateAtEndPinLaw" = some m.cls) (hnm : meth.name = "law") (hret : meth.sig.returnType = some .boolean) (hlk : meth.locks = false)  {T : State} {locs : List Loc} {h : Heap} (a61 : Addr) (c_a61 : Nat → Int32) (d0 : Int32) (d1 : Int32) (x2 : Int32) (x3 : Int64) (x5 : Int32) (d6 : Int32) (x7 : Int32) (d8 : Int32) (x9 : Int32) (x10 : Int32) (x11 : Int32) (d12 : Int32) (r : Int32) (X : Stand p l e room_1 s m args below meth c T locs 1 3) (eT : T.heap = h) (N : Fr n0 locs) (hsz : n0 ≤ h.size) (A_a61 : OAr Z h a61 .char 3 (ci c_a61)) (g_a61 : n0 ≤ a61) (hr : f0_224b c_a61 x2 x3 x5 x7 x9 x10 x11 = some r) :
    OG p e below s (fun v h L => v = (some (.int r)) ∧ Fr n0 L) 16 128 T (mkF m 224 #[.val (.int d0), .val (.int d1), .val (.int x2), .val (.long x3), .second, .val (.int x5), .val (.int d6), .val (.int x7), .val (.int d8), .val (.int x9), .val (.int x10), .val (.int x11), .val (.int d12), .val (.ref a61), .unset, .unset, .unset, .unset, .unset, .unset, .unset, .unset, .unset, .unset, .unset] []) := by
  have hr : (f0_225b c_a61 x2 x3 x5 x7 x9 x10 x11 (0 : Int32)) = some r := hr
  refine o_iconst X hx (hb hby at_224) (0 : Int32) rfl (pc' := 225) rfl ?_
  exact b0_225b hx hZ hw hby hml hown hnm hret hlk a61 c_a61 d0 d1 x2 x3 x5 d6 x7 d8 x9 x10 x11 d12 (0 : Int32) r X eT N hsz A_a61 g_a61 hr
def f0_220b (c_a61 : (Nat → Int32)) (x2 : Int32) (x3 : Int64) (x5 : Int32) (x7 : Int32) (x9 : Int32) (x10 : Int32) (x11 : Int32) : Option (Int32) := (f0_225b c_a61 x2 x3 x5 x7 x9 x10 x11 (1 : Int32))
set_option maxRecDepth 65536 in
set_option maxHeartbeats 40000000 in
theorem b0_220b {p : Program} {l : Launch} {e : Env} {s : State} {m : MethodId} {args : Array Value} {below : List Frame} {meth : Method} {c : Code} {Z : State} {a0 : Array Value} {n0 : Nat} (hx : p.tables.exec = Jvm.exec) (hZ : Z.Warmed39 s.vm) (hw : ∀ d ∈ tables_1, d.before a0 Z = true) (hby : c.code = code) (hml : c.maxLocals = 25) (hown : s.vm.findClass "com/example/once_match/oncematch/PrefixRegisterStateAtEndPinLaw" = some m.cls) (hnm : meth.name = "law") (hret : meth.sig.returnType = some .boolean) (hlk : meth.locks = false)  {T : State} {locs : List Loc} {h : Heap} (a61 : Addr) (c_a61 : Nat → Int32) (d0 : Int32) (d1 : Int32) (x2 : Int32) (x3 : Int64) (x5 : Int32) (d6 : Int32) (x7 : Int32) (d8 : Int32) (x9 : Int32) (x10 : Int32) (x11 : Int32) (d12 : Int32) (r : Int32) (X : Stand p l e room_1 s m args below meth c T locs 1 3) (eT : T.heap = h) (N : Fr n0 locs) (hsz : n0 ≤ h.size) (A_a61 : OAr Z h a61 .char 3 (ci c_a61)) (g_a61 : n0 ≤ a61) (hr : f0_220b c_a61 x2 x3 x5 x7 x9 x10 x11 = some r) :
    OG p e below s (fun v h L => v = (some (.int r)) ∧ Fr n0 L) 16 128 T (mkF m 220 #[.val (.int d0), .val (.int d1), .val (.int x2), .val (.long x3), .second, .val (.int x5), .val (.int d6), .val (.int x7), .val (.int d8), .val (.int x9), .val (.int x10), .val (.int x11), .val (.int d12), .val (.ref a61), .unset, .unset, .unset, .unset, .unset, .unset, .unset, .unset, .unset, .unset, .unset] []) := by
  have hr : (f0_225b c_a61 x2 x3 x5 x7 x9 x10 x11 (1 : Int32)) = some r := hr
  refine o_iconst X hx (hb hby at_220) (1 : Int32) rfl (pc' := 221) rfl ?_
  refine o_goto X hx (hb hby at_221) (pc' := 225) (by decide) (by decide) ?_
  exact b0_225b hx hZ hw hby hml hown hnm hret hlk a61 c_a61 d0 d1 x2 x3 x5 d6 x7 d8 x9 x10 x11 d12 (1 : Int32) r X eT N hsz A_a61 g_a61 hr
def f0_206b (c_a61 : (Nat → Int32)) (x2 : Int32) (x3 : Int64) (x5 : Int32) (x7 : Int32) (x9 : Int32) (x10 : Int32) (x11 : Int32) (x12 : Int32) : Option (Int32) := (if x7 < (4 : Int32) then (f0_220b c_a61 x2 x3 x5 x7 x9 x10 x11) else (if (255 : Int32) < x12 then (f0_224b c_a61 x2 x3 x5 x7 x9 x10 x11) else (f0_220b c_a61 x2 x3 x5 x7 x9 x10 x11)))
set_option maxRecDepth 65536 in
set_option maxHeartbeats 40000000 in
theorem b0_206b {p : Program} {l : Launch} {e : Env} {s : State} {m : MethodId} {args : Array Value} {below : List Frame} {meth : Method} {c : Code} {Z : State} {a0 : Array Value} {n0 : Nat} (hx : p.tables.exec = Jvm.exec) (hZ : Z.Warmed39 s.vm) (hw : ∀ d ∈ tables_1, d.before a0 Z = true) (hby : c.code = code) (hml : c.maxLocals = 25) (hown : s.vm.findClass "com/example/once_match/oncematch/PrefixRegisterStateAtEndPinLaw" = some m.cls) (hnm : meth.name = "law") (hret : meth.sig.returnType = some .boolean) (hlk : meth.locks = false)  {T : State} {locs : List Loc} {h : Heap} (a61 : Addr) (c_a61 : Nat → Int32) (d0 : Int32) (d1 : Int32) (x2 : Int32) (x3 : Int64) (x5 : Int32) (d6 : Int32) (x7 : Int32) (d8 : Int32) (x9 : Int32) (x10 : Int32) (x11 : Int32) (x12 : Int32) (r : Int32) (X : Stand p l e room_1 s m args below meth c T locs 1 3) (eT : T.heap = h) (N : Fr n0 locs) (hsz : n0 ≤ h.size) (A_a61 : OAr Z h a61 .char 3 (ci c_a61)) (g_a61 : n0 ≤ a61) (hr : f0_206b c_a61 x2 x3 x5 x7 x9 x10 x11 x12 = some r) :
    OG p e below s (fun v h L => v = (some (.int r)) ∧ Fr n0 L) 16 128 T (mkF m 206 #[.val (.int d0), .val (.int d1), .val (.int x2), .val (.long x3), .second, .val (.int x5), .val (.int d6), .val (.int x7), .val (.int d8), .val (.int x9), .val (.int x10), .val (.int x11), .val (.int x12), .val (.ref a61), .unset, .unset, .unset, .unset, .unset, .unset, .unset, .unset, .unset, .unset, .unset] []) := by
  have hr : (if x7 < (4 : Int32) then (f0_220b c_a61 x2 x3 x5 x7 x9 x10 x11) else (if (255 : Int32) < x12 then (f0_224b c_a61 x2 x3 x5 x7 x9 x10 x11) else (f0_220b c_a61 x2 x3 x5 x7 x9 x10 x11))) = some r := hr
  refine o_iload X hx (hb hby at_206) rfl (pc' := 208) rfl ?_
  refine o_iconst X hx (hb hby at_208) (4 : Int32) rfl (pc' := 209) rfl ?_
  by_cases hc86 : x7 < (4 : Int32)
  · rw [if_pos hc86] at hr
    refine o_icmpYes X hx (hb hby at_209) (c_tlt hc86).1 (pc' := 220) (by decide) (by decide) ?_
    exact b0_220b hx hZ hw hby hml hown hnm hret hlk a61 c_a61 d0 d1 x2 x3 x5 d6 x7 d8 x9 x10 x11 x12 r X eT N hsz A_a61 g_a61 hr
  · rw [if_neg hc86] at hr
    refine o_icmpNo X hx (hb hby at_209) (c_flt hc86).1 (pc' := 212) rfl ?_
    refine o_iload X hx (hb hby at_212) rfl (pc' := 214) rfl ?_
    refine o_sipush X hx (hb hby at_214) (255 : Int32) rfl (pc' := 217) rfl ?_
    by_cases hc87 : (255 : Int32) < x12
    · rw [if_pos hc87] at hr
      refine o_icmpYes X hx (hb hby at_217) (c_tgt hc87).1 (pc' := 224) (by decide) (by decide) ?_
      exact b0_224b hx hZ hw hby hml hown hnm hret hlk a61 c_a61 d0 d1 x2 x3 x5 d6 x7 d8 x9 x10 x11 x12 r X eT N hsz A_a61 g_a61 hr
    · rw [if_neg hc87] at hr
      refine o_icmpNo X hx (hb hby at_217) (c_fgt hc87).1 (pc' := 220) rfl ?_
      exact b0_220b hx hZ hw hby hml hown hnm hret hlk a61 c_a61 d0 d1 x2 x3 x5 d6 x7 d8 x9 x10 x11 x12 r X eT N hsz A_a61 g_a61 hr
def f0_192b (c_a61 : (Nat → Int32)) (x2 : Int32) (x3 : Int64) (x5 : Int32) (x7 : Int32) (x9 : Int32) (x10 : Int32) (x11 : Int32) (x12 : Int32) : Option (Int32) := (if x7 < (3 : Int32) then (f0_206b c_a61 x2 x3 x5 x7 x9 x10 x11 x12) else (if (255 : Int32) < x11 then (f0_224b c_a61 x2 x3 x5 x7 x9 x10 x11) else (f0_206b c_a61 x2 x3 x5 x7 x9 x10 x11 x12)))
set_option maxRecDepth 65536 in
set_option maxHeartbeats 40000000 in
theorem b0_192b {p : Program} {l : Launch} {e : Env} {s : State} {m : MethodId} {args : Array Value} {below : List Frame} {meth : Method} {c : Code} {Z : State} {a0 : Array Value} {n0 : Nat} (hx : p.tables.exec = Jvm.exec) (hZ : Z.Warmed39 s.vm) (hw : ∀ d ∈ tables_1, d.before a0 Z = true) (hby : c.code = code) (hml : c.maxLocals = 25) (hown : s.vm.findClass "com/example/once_match/oncematch/PrefixRegisterStateAtEndPinLaw" = some m.cls) (hnm : meth.name = "law") (hret : meth.sig.returnType = some .boolean) (hlk : meth.locks = false)  {T : State} {locs : List Loc} {h : Heap} (a61 : Addr) (c_a61 : Nat → Int32) (d0 : Int32) (d1 : Int32) (x2 : Int32) (x3 : Int64) (x5 : Int32) (d6 : Int32) (x7 : Int32) (d8 : Int32) (x9 : Int32) (x10 : Int32) (x11 : Int32) (x12 : Int32) (r : Int32) (X : Stand p l e room_1 s m args below meth c T locs 1 3) (eT : T.heap = h) (N : Fr n0 locs) (hsz : n0 ≤ h.size) (A_a61 : OAr Z h a61 .char 3 (ci c_a61)) (g_a61 : n0 ≤ a61) (hr : f0_192b c_a61 x2 x3 x5 x7 x9 x10 x11 x12 = some r) :
    OG p e below s (fun v h L => v = (some (.int r)) ∧ Fr n0 L) 16 128 T (mkF m 192 #[.val (.int d0), .val (.int d1), .val (.int x2), .val (.long x3), .second, .val (.int x5), .val (.int d6), .val (.int x7), .val (.int d8), .val (.int x9), .val (.int x10), .val (.int x11), .val (.int x12), .val (.ref a61), .unset, .unset, .unset, .unset, .unset, .unset, .unset, .unset, .unset, .unset, .unset] []) := by
  have hr : (if x7 < (3 : Int32) then (f0_206b c_a61 x2 x3 x5 x7 x9 x10 x11 x12) else (if (255 : Int32) < x11 then (f0_224b c_a61 x2 x3 x5 x7 x9 x10 x11) else (f0_206b c_a61 x2 x3 x5 x7 x9 x10 x11 x12))) = some r := hr
  refine o_iload X hx (hb hby at_192) rfl (pc' := 194) rfl ?_
  refine o_iconst X hx (hb hby at_194) (3 : Int32) rfl (pc' := 195) rfl ?_
  by_cases hc85 : x7 < (3 : Int32)
  · rw [if_pos hc85] at hr
    refine o_icmpYes X hx (hb hby at_195) (c_tlt hc85).1 (pc' := 206) (by decide) (by decide) ?_
    exact b0_206b hx hZ hw hby hml hown hnm hret hlk a61 c_a61 d0 d1 x2 x3 x5 d6 x7 d8 x9 x10 x11 x12 r X eT N hsz A_a61 g_a61 hr
  · rw [if_neg hc85] at hr
    refine o_icmpNo X hx (hb hby at_195) (c_flt hc85).1 (pc' := 198) rfl ?_
    refine o_iload X hx (hb hby at_198) rfl (pc' := 200) rfl ?_
    refine o_sipush X hx (hb hby at_200) (255 : Int32) rfl (pc' := 203) rfl ?_
    by_cases hc88 : (255 : Int32) < x11
    · rw [if_pos hc88] at hr
      refine o_icmpYes X hx (hb hby at_203) (c_tgt hc88).1 (pc' := 224) (by decide) (by decide) ?_
      exact b0_224b hx hZ hw hby hml hown hnm hret hlk a61 c_a61 d0 d1 x2 x3 x5 d6 x7 d8 x9 x10 x11 x12 r X eT N hsz A_a61 g_a61 hr
    · rw [if_neg hc88] at hr
      refine o_icmpNo X hx (hb hby at_203) (c_fgt hc88).1 (pc' := 206) rfl ?_
      exact b0_206b hx hZ hw hby hml hown hnm hret hlk a61 c_a61 d0 d1 x2 x3 x5 d6 x7 d8 x9 x10 x11 x12 r X eT N hsz A_a61 g_a61 hr
def f0_170b (c_a61 : (Nat → Int32)) (x2 : Int32) (x3 : Int64) (x5 : Int32) (x7 : Int32) (x9 : Int32) (x10 : Int32) (x11 : Int32) (x12 : Int32) : Option (Int32) := (if (255 : Int32) < x9 then (f0_224b c_a61 x2 x3 x5 x7 x9 x10 x11) else (if x7 < (2 : Int32) then (f0_192b c_a61 x2 x3 x5 x7 x9 x10 x11 x12) else (if (255 : Int32) < x10 then (f0_224b c_a61 x2 x3 x5 x7 x9 x10 x11) else (f0_192b c_a61 x2 x3 x5 x7 x9 x10 x11 x12))))
set_option maxRecDepth 65536 in
set_option maxHeartbeats 40000000 in
theorem b0_170b {p : Program} {l : Launch} {e : Env} {s : State} {m : MethodId} {args : Array Value} {below : List Frame} {meth : Method} {c : Code} {Z : State} {a0 : Array Value} {n0 : Nat} (hx : p.tables.exec = Jvm.exec) (hZ : Z.Warmed39 s.vm) (hw : ∀ d ∈ tables_1, d.before a0 Z = true) (hby : c.code = code) (hml : c.maxLocals = 25) (hown : s.vm.findClass "com/example/once_match/oncematch/PrefixRegisterStateAtEndPinLaw" = some m.cls) (hnm : meth.name = "law") (hret : meth.sig.returnType = some .boolean) (hlk : meth.locks = false)  {T : State} {locs : List Loc} {h : Heap} (a61 : Addr) (c_a61 : Nat → Int32) (d0 : Int32) (d1 : Int32) (x2 : Int32) (x3 : Int64) (x5 : Int32) (d6 : Int32) (x7 : Int32) (d8 : Int32) (x9 : Int32) (x10 : Int32) (x11 : Int32) (x12 : Int32) (r : Int32) (X : Stand p l e room_1 s m args below meth c T locs 1 3) (eT : T.heap = h) (N : Fr n0 locs) (hsz : n0 ≤ h.size) (A_a61 : OAr Z h a61 .char 3 (ci c_a61)) (g_a61 : n0 ≤ a61) (hr : f0_170b c_a61 x2 x3 x5 x7 x9 x10 x11 x12 = some r) :
    OG p e below s (fun v h L => v = (some (.int r)) ∧ Fr n0 L) 16 128 T (mkF m 170 #[.val (.int d0), .val (.int d1), .val (.int x2), .val (.long x3), .second, .val (.int x5), .val (.int d6), .val (.int x7), .val (.int d8), .val (.int x9), .val (.int x10), .val (.int x11), .val (.int x12), .val (.ref a61), .unset, .unset, .unset, .unset, .unset, .unset, .unset, .unset, .unset, .unset, .unset] []) := by
  have hr : (if (255 : Int32) < x9 then (f0_224b c_a61 x2 x3 x5 x7 x9 x10 x11) else (if x7 < (2 : Int32) then (f0_192b c_a61 x2 x3 x5 x7 x9 x10 x11 x12) else (if (255 : Int32) < x10 then (f0_224b c_a61 x2 x3 x5 x7 x9 x10 x11) else (f0_192b c_a61 x2 x3 x5 x7 x9 x10 x11 x12)))) = some r := hr
  refine o_iload X hx (hb hby at_170) rfl (pc' := 172) rfl ?_
  refine o_sipush X hx (hb hby at_172) (255 : Int32) rfl (pc' := 175) rfl ?_
  by_cases hc65 : (255 : Int32) < x9
  · rw [if_pos hc65] at hr
    refine o_icmpYes X hx (hb hby at_175) (c_tgt hc65).1 (pc' := 224) (by decide) (by decide) ?_
    exact b0_224b hx hZ hw hby hml hown hnm hret hlk a61 c_a61 d0 d1 x2 x3 x5 d6 x7 d8 x9 x10 x11 x12 r X eT N hsz A_a61 g_a61 hr
  · rw [if_neg hc65] at hr
    refine o_icmpNo X hx (hb hby at_175) (c_fgt hc65).1 (pc' := 178) rfl ?_
    refine o_iload X hx (hb hby at_178) rfl (pc' := 180) rfl ?_
    refine o_iconst X hx (hb hby at_180) (2 : Int32) rfl (pc' := 181) rfl ?_
    by_cases hc84 : x7 < (2 : Int32)
    · rw [if_pos hc84] at hr
      refine o_icmpYes X hx (hb hby at_181) (c_tlt hc84).1 (pc' := 192) (by decide) (by decide) ?_
      exact b0_192b hx hZ hw hby hml hown hnm hret hlk a61 c_a61 d0 d1 x2 x3 x5 d6 x7 d8 x9 x10 x11 x12 r X eT N hsz A_a61 g_a61 hr
    · rw [if_neg hc84] at hr
      refine o_icmpNo X hx (hb hby at_181) (c_flt hc84).1 (pc' := 184) rfl ?_
      refine o_iload X hx (hb hby at_184) rfl (pc' := 186) rfl ?_
      refine o_sipush X hx (hb hby at_186) (255 : Int32) rfl (pc' := 189) rfl ?_
      by_cases hc89 : (255 : Int32) < x10
      · rw [if_pos hc89] at hr
        refine o_icmpYes X hx (hb hby at_189) (c_tgt hc89).1 (pc' := 224) (by decide) (by decide) ?_
        exact b0_224b hx hZ hw hby hml hown hnm hret hlk a61 c_a61 d0 d1 x2 x3 x5 d6 x7 d8 x9 x10 x11 x12 r X eT N hsz A_a61 g_a61 hr
      · rw [if_neg hc89] at hr
        refine o_icmpNo X hx (hb hby at_189) (c_fgt hc89).1 (pc' := 192) rfl ?_
        exact b0_192b hx hZ hw hby hml hown hnm hret hlk a61 c_a61 d0 d1 x2 x3 x5 d6 x7 d8 x9 x10 x11 x12 r X eT N hsz A_a61 g_a61 hr
def f0_443c (c_a90 : (Nat → Int32)) (x20 : Int64) (x23 : Int32) : Option (Int32) := (Option.bind (f2_0 c_a90 4) (fun v106 => (Option.bind (f7_0 v106.2.1 v106.1 v106.2.2.2.2.1 v106.2.2.1 x20) (fun v107 => (if v107 = x23 then (some (1 : Int32)) else (some (0 : Int32)))))))
set_option maxRecDepth 65536 in
set_option maxHeartbeats 40000000 in
theorem b0_443c {p : Program} {l : Launch} {e : Env} {s : State} {m : MethodId} {args : Array Value} {below : List Frame} {meth : Method} {c : Code} {Z : State} {a0 : Array Value} {n0 : Nat} (hx : p.tables.exec = Jvm.exec) (hZ : Z.Warmed39 s.vm) (hw : ∀ d ∈ tables_1, d.before a0 Z = true) (hby : c.code = code) (hml : c.maxLocals = 25) (hown : s.vm.findClass "com/example/once_match/oncematch/PrefixRegisterStateAtEndPinLaw" = some m.cls) (hnm : meth.name = "law") (hret : meth.sig.returnType = some .boolean) (hlk : meth.locks = false)  {T : State} {locs : List Loc} {h : Heap} (a90 : Addr) (c_a90 : Nat → Int32) (d0 : Int32) (d1 : Int32) (d2 : Int32) (d3 : Int64) (d5 : Int32) (d6 : Int32) (d7 : Int32) (d8 : Int32) (d9 : Int32) (d10 : Int32) (d11 : Int32) (d12 : Int32) (d14 : Int32) (d15 : Int32) (d16 : Int32) (d17 : Int32) (d18 : Int32) (d19 : Int32) (x20 : Int64) (d22 : Int32) (x23 : Int32) (r : Int32) (X : Stand p l e room_1 s m args below meth c T locs 1 4) (eT : T.heap = h) (N : Fr n0 locs) (hsz : n0 ≤ h.size) (A_a90 : OAr Z h a90 .char 4 (ci c_a90)) (g_a90 : n0 ≤ a90) (hr : f0_443c c_a90 x20 x23 = some r) :
    OG p e below s (fun v h L => v = (some (.int r)) ∧ Fr n0 L) 16 128 T (mkF m 443 #[.val (.int d0), .val (.int d1), .val (.int d2), .val (.long d3), .second, .val (.int d5), .val (.int d6), .val (.int d7), .val (.int d8), .val (.int d9), .val (.int d10), .val (.int d11), .val (.int d12), .val (.ref a90), .val (.int d14), .val (.int d15), .val (.int d16), .val (.int d17), .val (.int d18), .val (.int d19), .val (.long x20), .second, .val (.int d22), .val (.int x23), .unset] []) := by
  have hr : (Option.bind (f2_0 c_a90 4) (fun v106 => (Option.bind (f7_0 v106.2.1 v106.1 v106.2.2.2.2.1 v106.2.2.1 x20) (fun v107 => (if v107 = x23 then (some (1 : Int32)) else (some (0 : Int32))))))) = some r := hr
  refine o_new X hx hZ hown eT (hw _ (List.mem_of_getElem? (i := 6) rfl)) (hw _ (List.mem_of_getElem? (i := 7) rfl)) (hw _ (List.mem_of_getElem? (i := 8) rfl)) (hb hby at_443) (pc' := 446) rfl (by decide) (by decide) ?_
  intro T105 h105 a105 X105 e105 q105 E105 A105 D105
  have g105 : n0 ≤ a105 := Nat.le_trans hsz (Nat.le_of_eq q105.symm)
  have ne_a90_a105 : a90 ≠ a105 := by rw [q105]; exact Nat.ne_of_lt (A_a90.lt)
  have A105_a90 := OAr.ext E105 A_a90
  have z105 : n0 ≤ h105.size := Nat.le_trans hsz E105.1
  have F105_lane : Fld Z h105 a105 "com/example/once_match/oncematch/PrefixRegister" "lane" "I" (.int (0 : Int32)) := D105 (Or.inr (hw _ (List.mem_of_getElem? (i := 20) rfl))) (ty := .int) (by decide)
  have F105_length : Fld Z h105 a105 "com/example/once_match/oncematch/PrefixRegister" "length" "I" (.int (0 : Int32)) := D105 (Or.inr (hw _ (List.mem_of_getElem? (i := 22) rfl))) (ty := .int) (by decide)
  have F105_entry : Fld Z h105 a105 "com/example/once_match/oncematch/PrefixRegister" "entry" "I" (.int (0 : Int32)) := D105 (Or.inr (hw _ (List.mem_of_getElem? (i := 24) rfl))) (ty := .int) (by decide)
  have F105_filler : Fld Z h105 a105 "com/example/once_match/oncematch/PrefixRegister" "filler" "I" (.int (0 : Int32)) := D105 (Or.inr (hw _ (List.mem_of_getElem? (i := 30) rfl))) (ty := .int) (by decide)
  have F105_prefix : Fld Z h105 a105 "com/example/once_match/oncematch/PrefixRegister" "prefix" "J" (.long (0 : Int64)) := D105 (Or.inr (hw _ (List.mem_of_getElem? (i := 36) rfl))) (ty := .long) (by decide)
  have F105_lasts : Fld Z h105 a105 "com/example/once_match/oncematch/PrefixRegister" "lasts" "J" (.long (0 : Int64)) := D105 (Or.inr (hw _ (List.mem_of_getElem? (i := 39) rfl))) (ty := .long) (by decide)
  have F105_before : Fld Z h105 a105 "com/example/once_match/oncematch/PrefixRegister" "before" "[J" .null := D105 (Or.inr (hw _ (List.mem_of_getElem? (i := 42) rfl))) (ty := (.array .long)) (by decide)
  refine o_dup X105 hx (hb hby at_446) rfl (pc' := 447) rfl ?_
  refine o_aload X105 hx (hb hby at_447) rfl rfl (pc' := 449) rfl ?_
  rcases hq106 : f2_0 c_a90 4 with _ | v106
  · rw [hq106] at hr; cases hr
  rw [hq106] at hr
  dsimp only [Option.bind] at hr
  refine o_special X105 hx hZ (argsL := [(.ref a90)]) (rest := [(.ref a105)]) (a := a105) 1 rfl hown e105 (hw _ (List.mem_of_getElem? (i := 9) rfl)) (hw _ (List.mem_of_getElem? (i := 10) rfl)) (hw _ (List.mem_of_getElem? (i := 8) rfl)) (hw _ (List.mem_of_getElem? (i := 11) rfl)) (by decide) (rm2 l Z a0 hw [] a105 a90 (.int (0 : Int32)) (.int (0 : Int32)) (.int (0 : Int32)) (.int (0 : Int32)) (.long (0 : Int64)) (.long (0 : Int64)) .null c_a90 4 h105 n0 z105 A105 F105_lane F105_length F105_entry F105_filler F105_prefix F105_lasts F105_before g105 A105_a90 g_a90 (Ne.symm ne_a90_a105) v106 hq106) (by decide) (by decide) (by rw [hml]; rfl) (lenOf pd_4 rfl) rfl (Nat.le_refl _) (hb hby at_449) (pc' := 452) rfl (by decide) (by decide) ?_
  rintro _ T106 L106 X106 ⟨rfl, N106, K106, B106, F106_lane, F106_length, F106_entry, F106_filler, F106_prefix, F106_lasts⟩
  replace X106 : Stand p l e room_1 s m args below meth c T106 (locs ++ L106) 3 15 := X106
  have M106 := Fr.app N N106
  dsimp only [Option.toList, List.cons_append, List.nil_append]
  have A106_a90 := OAr.keep A105_a90 K106 (by simp [ne_a90_a105])
  have A106_a105 := Exa.keep A105 K106
  have z106 : n0 ≤ T106.heap.size := Nat.le_trans z105 K106.1
  refine o_astore X106 hx (hb hby at_452) rfl #[.val (.int d0), .val (.int d1), .val (.int d2), .val (.long d3), .second, .val (.int d5), .val (.int d6), .val (.int d7), .val (.int d8), .val (.int d9), .val (.int d10), .val (.int d11), .val (.int d12), .val (.ref a90), .val (.int d14), .val (.int d15), .val (.int d16), .val (.int d17), .val (.int d18), .val (.int d19), .val (.long x20), .second, .val (.int d22), .val (.int x23), .val (.ref a105)] rfl (pc' := 454) rfl ?_
  refine o_aload X106 hx (hb hby at_454) rfl rfl (pc' := 456) rfl ?_
  refine o_lload X106 hx (hb hby at_456) rfl (pc' := 458) rfl ?_
  rcases hq107 : f7_0 v106.2.1 v106.1 v106.2.2.2.2.1 v106.2.2.1 x20 with _ | v107
  · rw [hq107] at hr; cases hr
  rw [hq107] at hr
  dsimp only [Option.bind] at hr
  refine o_virtual X106 hx hZ (argsL := [(.long x20)]) (rest := []) (a := a105) 0 hown (rfl : T106.heap = T106.heap) (hw _ (List.mem_of_getElem? (i := 43) rfl)) (hw _ (List.mem_of_getElem? (i := 44) rfl)) (hw _ (List.mem_of_getElem? (i := 46) rfl)) (hw _ (List.mem_of_getElem? (i := 45) rfl)) (hw _ (List.mem_of_getElem? (i := 8) rfl)) (hw _ (List.mem_of_getElem? (i := 47) rfl)) (by decide) B106 (rm7 l Z a0 hw [] a105 x20 v106.2.1 v106.1 v106.2.2.2.2.1 v106.2.2.1 T106.heap n0 z106 B106 F106_length F106_lane F106_prefix F106_entry v107 hq107) (by decide) (by decide) (by rw [hml]; rfl) (lenOf pd_5 rfl) rfl (Nat.le_refl _) (hb hby at_458) (pc' := 461) rfl (by decide) (by decide) ?_
  rintro _ T107 L107 X107 ⟨rfl, N107, e107⟩
  replace X107 : Stand p l e room_1 s m args below meth c T107 ((locs ++ L106) ++ L107) 3 15 := X107
  have M107 := Fr.app M106 N107
  dsimp only [Option.toList, List.cons_append, List.nil_append]
  refine o_iload X107 hx (hb hby at_461) rfl (pc' := 463) rfl ?_
  by_cases hc108 : v107 = x23
  · rw [if_pos hc108] at hr
    refine o_icmpNo X107 hx (hb hby at_463) (c_teq hc108).2 (pc' := 466) rfl ?_
    refine o_iconst X107 hx (hb hby at_466) (1 : Int32) rfl (pc' := 467) rfl ?_
    refine o_goto X107 hx (hb hby at_467) (pc' := 471) (by decide) (by decide) ?_
    obtain rfl : (1 : Int32) = r := Option.some.inj hr
    exact o_retN X107 hx hlk (t := .boolean) (by simp) hret (hb hby at_471) rfl ⟨rfl, M107⟩ (by decide) (by decide)
  · rw [if_neg hc108] at hr
    refine o_icmpYes X107 hx (hb hby at_463) (c_feq hc108).2 (pc' := 470) (by decide) (by decide) ?_
    refine o_iconst X107 hx (hb hby at_470) (0 : Int32) rfl (pc' := 471) rfl ?_
    obtain rfl : (0 : Int32) = r := Option.some.inj hr
    exact o_retN X107 hx hlk (t := .boolean) (by simp) hret (hb hby at_471) rfl ⟨rfl, M107⟩ (by decide) (by decide)
def f0_440c (c_a90 : (Nat → Int32)) (x20 : Int64) : Option (Int32) := (f0_443c c_a90 x20 (0 : Int32))
set_option maxRecDepth 65536 in
set_option maxHeartbeats 40000000 in
theorem b0_440c {p : Program} {l : Launch} {e : Env} {s : State} {m : MethodId} {args : Array Value} {below : List Frame} {meth : Method} {c : Code} {Z : State} {a0 : Array Value} {n0 : Nat} (hx : p.tables.exec = Jvm.exec) (hZ : Z.Warmed39 s.vm) (hw : ∀ d ∈ tables_1, d.before a0 Z = true) (hby : c.code = code) (hml : c.maxLocals = 25) (hown : s.vm.findClass "com/example/once_match/oncematch/PrefixRegisterStateAtEndPinLaw" = some m.cls) (hnm : meth.name = "law") (hret : meth.sig.returnType = some .boolean) (hlk : meth.locks = false)  {T : State} {locs : List Loc} {h : Heap} (a90 : Addr) (c_a90 : Nat → Int32) (d0 : Int32) (d1 : Int32) (d2 : Int32) (d3 : Int64) (d5 : Int32) (d6 : Int32) (d7 : Int32) (d8 : Int32) (d9 : Int32) (d10 : Int32) (d11 : Int32) (d12 : Int32) (d14 : Int32) (d15 : Int32) (d16 : Int32) (d17 : Int32) (d18 : Int32) (d19 : Int32) (x20 : Int64) (d22 : Int32) (r : Int32) (X : Stand p l e room_1 s m args below meth c T locs 1 4) (eT : T.heap = h) (N : Fr n0 locs) (hsz : n0 ≤ h.size) (A_a90 : OAr Z h a90 .char 4 (ci c_a90)) (g_a90 : n0 ≤ a90) (hr : f0_440c c_a90 x20 = some r) :
    OG p e below s (fun v h L => v = (some (.int r)) ∧ Fr n0 L) 16 128 T (mkF m 440 #[.val (.int d0), .val (.int d1), .val (.int d2), .val (.long d3), .second, .val (.int d5), .val (.int d6), .val (.int d7), .val (.int d8), .val (.int d9), .val (.int d10), .val (.int d11), .val (.int d12), .val (.ref a90), .val (.int d14), .val (.int d15), .val (.int d16), .val (.int d17), .val (.int d18), .val (.int d19), .val (.long x20), .second, .val (.int d22), .unset, .unset] []) := by
  have hr : (f0_443c c_a90 x20 (0 : Int32)) = some r := hr
  refine o_iconst X hx (hb hby at_440) (0 : Int32) rfl (pc' := 441) rfl ?_
  refine o_istore X hx (hb hby at_441) #[.val (.int d0), .val (.int d1), .val (.int d2), .val (.long d3), .second, .val (.int d5), .val (.int d6), .val (.int d7), .val (.int d8), .val (.int d9), .val (.int d10), .val (.int d11), .val (.int d12), .val (.ref a90), .val (.int d14), .val (.int d15), .val (.int d16), .val (.int d17), .val (.int d18), .val (.int d19), .val (.long x20), .second, .val (.int d22), .val (.int (0 : Int32)), .unset] rfl (pc' := 443) rfl ?_
  exact b0_443c hx hZ hw hby hml hown hnm hret hlk a90 c_a90 d0 d1 d2 d3 d5 d6 d7 d8 d9 d10 d11 d12 d14 d15 d16 d17 d18 d19 x20 d22 (0 : Int32) r X eT N hsz A_a90 g_a90 hr
def f0_421c (c_a90 : (Nat → Int32)) (x9 : Int32) (x17 : Int32) (x20 : Int64) (x22 : Int32) : Option (Int32) := (if (1 : Int32) < x22 then (if x17 = x9 then (f0_443c c_a90 x20 (1 : Int32)) else (f0_440c c_a90 x20)) else (f0_440c c_a90 x20))
set_option maxRecDepth 65536 in
set_option maxHeartbeats 40000000 in
theorem b0_421c {p : Program} {l : Launch} {e : Env} {s : State} {m : MethodId} {args : Array Value} {below : List Frame} {meth : Method} {c : Code} {Z : State} {a0 : Array Value} {n0 : Nat} (hx : p.tables.exec = Jvm.exec) (hZ : Z.Warmed39 s.vm) (hw : ∀ d ∈ tables_1, d.before a0 Z = true) (hby : c.code = code) (hml : c.maxLocals = 25) (hown : s.vm.findClass "com/example/once_match/oncematch/PrefixRegisterStateAtEndPinLaw" = some m.cls) (hnm : meth.name = "law") (hret : meth.sig.returnType = some .boolean) (hlk : meth.locks = false)  {T : State} {locs : List Loc} {h : Heap} (a90 : Addr) (c_a90 : Nat → Int32) (d0 : Int32) (d1 : Int32) (d2 : Int32) (d3 : Int64) (d5 : Int32) (d6 : Int32) (d7 : Int32) (d8 : Int32) (x9 : Int32) (d10 : Int32) (d11 : Int32) (d12 : Int32) (d14 : Int32) (d15 : Int32) (d16 : Int32) (x17 : Int32) (d18 : Int32) (d19 : Int32) (x20 : Int64) (x22 : Int32) (r : Int32) (X : Stand p l e room_1 s m args below meth c T locs 1 4) (eT : T.heap = h) (N : Fr n0 locs) (hsz : n0 ≤ h.size) (A_a90 : OAr Z h a90 .char 4 (ci c_a90)) (g_a90 : n0 ≤ a90) (hr : f0_421c c_a90 x9 x17 x20 x22 = some r) :
    OG p e below s (fun v h L => v = (some (.int r)) ∧ Fr n0 L) 16 128 T (mkF m 421 #[.val (.int d0), .val (.int d1), .val (.int d2), .val (.long d3), .second, .val (.int d5), .val (.int d6), .val (.int d7), .val (.int d8), .val (.int x9), .val (.int d10), .val (.int d11), .val (.int d12), .val (.ref a90), .val (.int d14), .val (.int d15), .val (.int d16), .val (.int x17), .val (.int d18), .val (.int d19), .val (.long x20), .second, .val (.int x22), .unset, .unset] []) := by
  have hr : (if (1 : Int32) < x22 then (if x17 = x9 then (f0_443c c_a90 x20 (1 : Int32)) else (f0_440c c_a90 x20)) else (f0_440c c_a90 x20)) = some r := hr
  refine o_iload X hx (hb hby at_421) rfl (pc' := 423) rfl ?_
  refine o_iconst X hx (hb hby at_423) (1 : Int32) rfl (pc' := 424) rfl ?_
  by_cases hc112 : (1 : Int32) < x22
  · rw [if_pos hc112] at hr
    refine o_icmpNo X hx (hb hby at_424) (c_tgt hc112).2 (pc' := 427) rfl ?_
    refine o_iload X hx (hb hby at_427) rfl (pc' := 429) rfl ?_
    refine o_iload X hx (hb hby at_429) rfl (pc' := 431) rfl ?_
    by_cases hc113 : x17 = x9
    · rw [if_pos hc113] at hr
      refine o_icmpNo X hx (hb hby at_431) (c_teq hc113).2 (pc' := 434) rfl ?_
      refine o_iconst X hx (hb hby at_434) (1 : Int32) rfl (pc' := 435) rfl ?_
      refine o_istore X hx (hb hby at_435) #[.val (.int d0), .val (.int d1), .val (.int d2), .val (.long d3), .second, .val (.int d5), .val (.int d6), .val (.int d7), .val (.int d8), .val (.int x9), .val (.int d10), .val (.int d11), .val (.int d12), .val (.ref a90), .val (.int d14), .val (.int d15), .val (.int d16), .val (.int x17), .val (.int d18), .val (.int d19), .val (.long x20), .second, .val (.int x22), .val (.int (1 : Int32)), .unset] rfl (pc' := 437) rfl ?_
      refine o_goto X hx (hb hby at_437) (pc' := 443) (by decide) (by decide) ?_
      exact b0_443c hx hZ hw hby hml hown hnm hret hlk a90 c_a90 d0 d1 d2 d3 d5 d6 d7 d8 x9 d10 d11 d12 d14 d15 d16 x17 d18 d19 x20 x22 (1 : Int32) r X eT N hsz A_a90 g_a90 hr
    · rw [if_neg hc113] at hr
      refine o_icmpYes X hx (hb hby at_431) (c_feq hc113).2 (pc' := 440) (by decide) (by decide) ?_
      exact b0_440c hx hZ hw hby hml hown hnm hret hlk a90 c_a90 d0 d1 d2 d3 d5 d6 d7 d8 x9 d10 d11 d12 d14 d15 d16 x17 d18 d19 x20 x22 r X eT N hsz A_a90 g_a90 hr
  · rw [if_neg hc112] at hr
    refine o_icmpYes X hx (hb hby at_424) (c_fgt hc112).2 (pc' := 440) (by decide) (by decide) ?_
    exact b0_440c hx hZ hw hby hml hown hnm hret hlk a90 c_a90 d0 d1 d2 d3 d5 d6 d7 d8 x9 d10 d11 d12 d14 d15 d16 x17 d18 d19 x20 x22 r X eT N hsz A_a90 g_a90 hr
def f0_395c (c_a90 : (Nat → Int32)) (x9 : Int32) (x10 : Int32) (x17 : Int32) (x18 : Int32) (x20 : Int64) (x22 : Int32) : Option (Int32) := (if (2 : Int32) < x22 then (if x18 = x9 then (if x17 = x10 then (f0_443c c_a90 x20 (2 : Int32)) else (f0_421c c_a90 x9 x17 x20 x22)) else (f0_421c c_a90 x9 x17 x20 x22)) else (f0_421c c_a90 x9 x17 x20 x22))
set_option maxRecDepth 65536 in
set_option maxHeartbeats 40000000 in
theorem b0_395c {p : Program} {l : Launch} {e : Env} {s : State} {m : MethodId} {args : Array Value} {below : List Frame} {meth : Method} {c : Code} {Z : State} {a0 : Array Value} {n0 : Nat} (hx : p.tables.exec = Jvm.exec) (hZ : Z.Warmed39 s.vm) (hw : ∀ d ∈ tables_1, d.before a0 Z = true) (hby : c.code = code) (hml : c.maxLocals = 25) (hown : s.vm.findClass "com/example/once_match/oncematch/PrefixRegisterStateAtEndPinLaw" = some m.cls) (hnm : meth.name = "law") (hret : meth.sig.returnType = some .boolean) (hlk : meth.locks = false)  {T : State} {locs : List Loc} {h : Heap} (a90 : Addr) (c_a90 : Nat → Int32) (d0 : Int32) (d1 : Int32) (d2 : Int32) (d3 : Int64) (d5 : Int32) (d6 : Int32) (d7 : Int32) (d8 : Int32) (x9 : Int32) (x10 : Int32) (d11 : Int32) (d12 : Int32) (d14 : Int32) (d15 : Int32) (d16 : Int32) (x17 : Int32) (x18 : Int32) (d19 : Int32) (x20 : Int64) (x22 : Int32) (r : Int32) (X : Stand p l e room_1 s m args below meth c T locs 1 4) (eT : T.heap = h) (N : Fr n0 locs) (hsz : n0 ≤ h.size) (A_a90 : OAr Z h a90 .char 4 (ci c_a90)) (g_a90 : n0 ≤ a90) (hr : f0_395c c_a90 x9 x10 x17 x18 x20 x22 = some r) :
    OG p e below s (fun v h L => v = (some (.int r)) ∧ Fr n0 L) 16 128 T (mkF m 395 #[.val (.int d0), .val (.int d1), .val (.int d2), .val (.long d3), .second, .val (.int d5), .val (.int d6), .val (.int d7), .val (.int d8), .val (.int x9), .val (.int x10), .val (.int d11), .val (.int d12), .val (.ref a90), .val (.int d14), .val (.int d15), .val (.int d16), .val (.int x17), .val (.int x18), .val (.int d19), .val (.long x20), .second, .val (.int x22), .unset, .unset] []) := by
  have hr : (if (2 : Int32) < x22 then (if x18 = x9 then (if x17 = x10 then (f0_443c c_a90 x20 (2 : Int32)) else (f0_421c c_a90 x9 x17 x20 x22)) else (f0_421c c_a90 x9 x17 x20 x22)) else (f0_421c c_a90 x9 x17 x20 x22)) = some r := hr
  refine o_iload X hx (hb hby at_395) rfl (pc' := 397) rfl ?_
  refine o_iconst X hx (hb hby at_397) (2 : Int32) rfl (pc' := 398) rfl ?_
  by_cases hc109 : (2 : Int32) < x22
  · rw [if_pos hc109] at hr
    refine o_icmpNo X hx (hb hby at_398) (c_tgt hc109).2 (pc' := 401) rfl ?_
    refine o_iload X hx (hb hby at_401) rfl (pc' := 403) rfl ?_
    refine o_iload X hx (hb hby at_403) rfl (pc' := 405) rfl ?_
    by_cases hc110 : x18 = x9
    · rw [if_pos hc110] at hr
      refine o_icmpNo X hx (hb hby at_405) (c_teq hc110).2 (pc' := 408) rfl ?_
      refine o_iload X hx (hb hby at_408) rfl (pc' := 410) rfl ?_
      refine o_iload X hx (hb hby at_410) rfl (pc' := 412) rfl ?_
      by_cases hc111 : x17 = x10
      · rw [if_pos hc111] at hr
        refine o_icmpNo X hx (hb hby at_412) (c_teq hc111).2 (pc' := 415) rfl ?_
        refine o_iconst X hx (hb hby at_415) (2 : Int32) rfl (pc' := 416) rfl ?_
        refine o_istore X hx (hb hby at_416) #[.val (.int d0), .val (.int d1), .val (.int d2), .val (.long d3), .second, .val (.int d5), .val (.int d6), .val (.int d7), .val (.int d8), .val (.int x9), .val (.int x10), .val (.int d11), .val (.int d12), .val (.ref a90), .val (.int d14), .val (.int d15), .val (.int d16), .val (.int x17), .val (.int x18), .val (.int d19), .val (.long x20), .second, .val (.int x22), .val (.int (2 : Int32)), .unset] rfl (pc' := 418) rfl ?_
        refine o_goto X hx (hb hby at_418) (pc' := 443) (by decide) (by decide) ?_
        exact b0_443c hx hZ hw hby hml hown hnm hret hlk a90 c_a90 d0 d1 d2 d3 d5 d6 d7 d8 x9 x10 d11 d12 d14 d15 d16 x17 x18 d19 x20 x22 (2 : Int32) r X eT N hsz A_a90 g_a90 hr
      · rw [if_neg hc111] at hr
        refine o_icmpYes X hx (hb hby at_412) (c_feq hc111).2 (pc' := 421) (by decide) (by decide) ?_
        exact b0_421c hx hZ hw hby hml hown hnm hret hlk a90 c_a90 d0 d1 d2 d3 d5 d6 d7 d8 x9 x10 d11 d12 d14 d15 d16 x17 x18 d19 x20 x22 r X eT N hsz A_a90 g_a90 hr
    · rw [if_neg hc110] at hr
      refine o_icmpYes X hx (hb hby at_405) (c_feq hc110).2 (pc' := 421) (by decide) (by decide) ?_
      exact b0_421c hx hZ hw hby hml hown hnm hret hlk a90 c_a90 d0 d1 d2 d3 d5 d6 d7 d8 x9 x10 d11 d12 d14 d15 d16 x17 x18 d19 x20 x22 r X eT N hsz A_a90 g_a90 hr
  · rw [if_neg hc109] at hr
    refine o_icmpYes X hx (hb hby at_398) (c_fgt hc109).2 (pc' := 421) (by decide) (by decide) ?_
    exact b0_421c hx hZ hw hby hml hown hnm hret hlk a90 c_a90 d0 d1 d2 d3 d5 d6 d7 d8 x9 x10 d11 d12 d14 d15 d16 x17 x18 d19 x20 x22 r X eT N hsz A_a90 g_a90 hr
def f0_358c (c_a90 : (Nat → Int32)) (x7 : Int32) (x9 : Int32) (x10 : Int32) (x11 : Int32) (x17 : Int32) (x18 : Int32) (x19 : Int32) (x20 : Int64) : Option (Int32) := (if (3 : Int32) < x7 then (if x19 = x9 then (if x18 = x10 then (if x17 = x11 then (f0_443c c_a90 x20 (3 : Int32)) else (f0_395c c_a90 x9 x10 x17 x18 x20 x7)) else (f0_395c c_a90 x9 x10 x17 x18 x20 x7)) else (f0_395c c_a90 x9 x10 x17 x18 x20 x7)) else (f0_395c c_a90 x9 x10 x17 x18 x20 x7))
set_option maxRecDepth 65536 in
set_option maxHeartbeats 40000000 in
theorem b0_358c {p : Program} {l : Launch} {e : Env} {s : State} {m : MethodId} {args : Array Value} {below : List Frame} {meth : Method} {c : Code} {Z : State} {a0 : Array Value} {n0 : Nat} (hx : p.tables.exec = Jvm.exec) (hZ : Z.Warmed39 s.vm) (hw : ∀ d ∈ tables_1, d.before a0 Z = true) (hby : c.code = code) (hml : c.maxLocals = 25) (hown : s.vm.findClass "com/example/once_match/oncematch/PrefixRegisterStateAtEndPinLaw" = some m.cls) (hnm : meth.name = "law") (hret : meth.sig.returnType = some .boolean) (hlk : meth.locks = false)  {T : State} {locs : List Loc} {h : Heap} (a90 : Addr) (c_a90 : Nat → Int32) (d0 : Int32) (d1 : Int32) (d2 : Int32) (d3 : Int64) (d5 : Int32) (d6 : Int32) (x7 : Int32) (d8 : Int32) (x9 : Int32) (x10 : Int32) (x11 : Int32) (d12 : Int32) (d14 : Int32) (d15 : Int32) (d16 : Int32) (x17 : Int32) (x18 : Int32) (x19 : Int32) (x20 : Int64) (r : Int32) (X : Stand p l e room_1 s m args below meth c T locs 1 4) (eT : T.heap = h) (N : Fr n0 locs) (hsz : n0 ≤ h.size) (A_a90 : OAr Z h a90 .char 4 (ci c_a90)) (g_a90 : n0 ≤ a90) (hr : f0_358c c_a90 x7 x9 x10 x11 x17 x18 x19 x20 = some r) :
    OG p e below s (fun v h L => v = (some (.int r)) ∧ Fr n0 L) 16 128 T (mkF m 358 #[.val (.int d0), .val (.int d1), .val (.int d2), .val (.long d3), .second, .val (.int d5), .val (.int d6), .val (.int x7), .val (.int d8), .val (.int x9), .val (.int x10), .val (.int x11), .val (.int d12), .val (.ref a90), .val (.int d14), .val (.int d15), .val (.int d16), .val (.int x17), .val (.int x18), .val (.int x19), .val (.long x20), .second, .unset, .unset, .unset] []) := by
  have hr : (if (3 : Int32) < x7 then (if x19 = x9 then (if x18 = x10 then (if x17 = x11 then (f0_443c c_a90 x20 (3 : Int32)) else (f0_395c c_a90 x9 x10 x17 x18 x20 x7)) else (f0_395c c_a90 x9 x10 x17 x18 x20 x7)) else (f0_395c c_a90 x9 x10 x17 x18 x20 x7)) else (f0_395c c_a90 x9 x10 x17 x18 x20 x7)) = some r := hr
  refine o_iload X hx (hb hby at_358) rfl (pc' := 360) rfl ?_
  refine o_istore X hx (hb hby at_360) #[.val (.int d0), .val (.int d1), .val (.int d2), .val (.long d3), .second, .val (.int d5), .val (.int d6), .val (.int x7), .val (.int d8), .val (.int x9), .val (.int x10), .val (.int x11), .val (.int d12), .val (.ref a90), .val (.int d14), .val (.int d15), .val (.int d16), .val (.int x17), .val (.int x18), .val (.int x19), .val (.long x20), .second, .val (.int x7), .unset, .unset] rfl (pc' := 362) rfl ?_
  refine o_iload X hx (hb hby at_362) rfl (pc' := 364) rfl ?_
  refine o_iconst X hx (hb hby at_364) (3 : Int32) rfl (pc' := 365) rfl ?_
  by_cases hc101 : (3 : Int32) < x7
  · rw [if_pos hc101] at hr
    refine o_icmpNo X hx (hb hby at_365) (c_tgt hc101).2 (pc' := 368) rfl ?_
    refine o_iload X hx (hb hby at_368) rfl (pc' := 370) rfl ?_
    refine o_iload X hx (hb hby at_370) rfl (pc' := 372) rfl ?_
    by_cases hc102 : x19 = x9
    · rw [if_pos hc102] at hr
      refine o_icmpNo X hx (hb hby at_372) (c_teq hc102).2 (pc' := 375) rfl ?_
      refine o_iload X hx (hb hby at_375) rfl (pc' := 377) rfl ?_
      refine o_iload X hx (hb hby at_377) rfl (pc' := 379) rfl ?_
      by_cases hc103 : x18 = x10
      · rw [if_pos hc103] at hr
        refine o_icmpNo X hx (hb hby at_379) (c_teq hc103).2 (pc' := 382) rfl ?_
        refine o_iload X hx (hb hby at_382) rfl (pc' := 384) rfl ?_
        refine o_iload X hx (hb hby at_384) rfl (pc' := 386) rfl ?_
        by_cases hc104 : x17 = x11
        · rw [if_pos hc104] at hr
          refine o_icmpNo X hx (hb hby at_386) (c_teq hc104).2 (pc' := 389) rfl ?_
          refine o_iconst X hx (hb hby at_389) (3 : Int32) rfl (pc' := 390) rfl ?_
          refine o_istore X hx (hb hby at_390) #[.val (.int d0), .val (.int d1), .val (.int d2), .val (.long d3), .second, .val (.int d5), .val (.int d6), .val (.int x7), .val (.int d8), .val (.int x9), .val (.int x10), .val (.int x11), .val (.int d12), .val (.ref a90), .val (.int d14), .val (.int d15), .val (.int d16), .val (.int x17), .val (.int x18), .val (.int x19), .val (.long x20), .second, .val (.int x7), .val (.int (3 : Int32)), .unset] rfl (pc' := 392) rfl ?_
          refine o_goto X hx (hb hby at_392) (pc' := 443) (by decide) (by decide) ?_
          exact b0_443c hx hZ hw hby hml hown hnm hret hlk a90 c_a90 d0 d1 d2 d3 d5 d6 x7 d8 x9 x10 x11 d12 d14 d15 d16 x17 x18 x19 x20 x7 (3 : Int32) r X eT N hsz A_a90 g_a90 hr
        · rw [if_neg hc104] at hr
          refine o_icmpYes X hx (hb hby at_386) (c_feq hc104).2 (pc' := 395) (by decide) (by decide) ?_
          exact b0_395c hx hZ hw hby hml hown hnm hret hlk a90 c_a90 d0 d1 d2 d3 d5 d6 x7 d8 x9 x10 x11 d12 d14 d15 d16 x17 x18 x19 x20 x7 r X eT N hsz A_a90 g_a90 hr
      · rw [if_neg hc103] at hr
        refine o_icmpYes X hx (hb hby at_379) (c_feq hc103).2 (pc' := 395) (by decide) (by decide) ?_
        exact b0_395c hx hZ hw hby hml hown hnm hret hlk a90 c_a90 d0 d1 d2 d3 d5 d6 x7 d8 x9 x10 x11 d12 d14 d15 d16 x17 x18 x19 x20 x7 r X eT N hsz A_a90 g_a90 hr
    · rw [if_neg hc102] at hr
      refine o_icmpYes X hx (hb hby at_372) (c_feq hc102).2 (pc' := 395) (by decide) (by decide) ?_
      exact b0_395c hx hZ hw hby hml hown hnm hret hlk a90 c_a90 d0 d1 d2 d3 d5 d6 x7 d8 x9 x10 x11 d12 d14 d15 d16 x17 x18 x19 x20 x7 r X eT N hsz A_a90 g_a90 hr
  · rw [if_neg hc101] at hr
    refine o_icmpYes X hx (hb hby at_365) (c_fgt hc101).2 (pc' := 395) (by decide) (by decide) ?_
    exact b0_395c hx hZ hw hby hml hown hnm hret hlk a90 c_a90 d0 d1 d2 d3 d5 d6 x7 d8 x9 x10 x11 d12 d14 d15 d16 x17 x18 x19 x20 x7 r X eT N hsz A_a90 g_a90 hr
def f0_330c (c_a90 : (Nat → Int32)) (x3 : Int64) (x7 : Int32) (x9 : Int32) (x10 : Int32) (x11 : Int32) (x15 : Int32) (x17 : Int32) (x18 : Int32) (x19 : Int32) : Option (Int32) := (f0_358c c_a90 x7 x9 x10 x11 x17 x18 x19 ((((x3 <<< (((3 : Int32) * x15) &&& 0x3f).toInt64) ||| ((x19.toInt64) <<< (((2 : Int32) * x15) &&& 0x3f).toInt64)) ||| ((x18.toInt64) <<< (x15 &&& 0x3f).toInt64)) ||| (x17.toInt64)))
set_option maxRecDepth 65536 in
set_option maxHeartbeats 40000000 in
theorem b0_330c {p : Program} {l : Launch} {e : Env} {s : State} {m : MethodId} {args : Array Value} {below : List Frame} {meth : Method} {c : Code} {Z : State} {a0 : Array Value} {n0 : Nat} (hx : p.tables.exec = Jvm.exec) (hZ : Z.Warmed39 s.vm) (hw : ∀ d ∈ tables_1, d.before a0 Z = true) (hby : c.code = code) (hml : c.maxLocals = 25) (hown : s.vm.findClass "com/example/once_match/oncematch/PrefixRegisterStateAtEndPinLaw" = some m.cls) (hnm : meth.name = "law") (hret : meth.sig.returnType = some .boolean) (hlk : meth.locks = false)  {T : State} {locs : List Loc} {h : Heap} (a90 : Addr) (c_a90 : Nat → Int32) (d0 : Int32) (d1 : Int32) (d2 : Int32) (x3 : Int64) (d5 : Int32) (d6 : Int32) (x7 : Int32) (d8 : Int32) (x9 : Int32) (x10 : Int32) (x11 : Int32) (d12 : Int32) (d14 : Int32) (x15 : Int32) (d16 : Int32) (x17 : Int32) (x18 : Int32) (x19 : Int32) (r : Int32) (X : Stand p l e room_1 s m args below meth c T locs 1 4) (eT : T.heap = h) (N : Fr n0 locs) (hsz : n0 ≤ h.size) (A_a90 : OAr Z h a90 .char 4 (ci c_a90)) (g_a90 : n0 ≤ a90) (hr : f0_330c c_a90 x3 x7 x9 x10 x11 x15 x17 x18 x19 = some r) :
    OG p e below s (fun v h L => v = (some (.int r)) ∧ Fr n0 L) 16 128 T (mkF m 330 #[.val (.int d0), .val (.int d1), .val (.int d2), .val (.long x3), .second, .val (.int d5), .val (.int d6), .val (.int x7), .val (.int d8), .val (.int x9), .val (.int x10), .val (.int x11), .val (.int d12), .val (.ref a90), .val (.int d14), .val (.int x15), .val (.int d16), .val (.int x17), .val (.int x18), .val (.int x19), .unset, .unset, .unset, .unset, .unset] []) := by
  have hr : (f0_358c c_a90 x7 x9 x10 x11 x17 x18 x19 ((((x3 <<< (((3 : Int32) * x15) &&& 0x3f).toInt64) ||| ((x19.toInt64) <<< (((2 : Int32) * x15) &&& 0x3f).toInt64)) ||| ((x18.toInt64) <<< (x15 &&& 0x3f).toInt64)) ||| (x17.toInt64))) = some r := hr
  refine o_lload_n X hx (hb hby at_330) rfl (pc' := 331) rfl ?_
  refine o_iconst X hx (hb hby at_331) (3 : Int32) rfl (pc' := 332) rfl ?_
  refine o_iload X hx (hb hby at_332) rfl (pc' := 334) rfl ?_
  refine o_imul X hx (hb hby at_334) (pc' := 335) rfl ?_
  refine o_lshl X hx (hb hby at_335) (pc' := 336) rfl ?_
  refine o_iload X hx (hb hby at_336) rfl (pc' := 338) rfl ?_
  refine o_i2l X hx (hb hby at_338) (pc' := 339) rfl ?_
  refine o_iconst X hx (hb hby at_339) (2 : Int32) rfl (pc' := 340) rfl ?_
  refine o_iload X hx (hb hby at_340) rfl (pc' := 342) rfl ?_
  refine o_imul X hx (hb hby at_342) (pc' := 343) rfl ?_
  refine o_lshl X hx (hb hby at_343) (pc' := 344) rfl ?_
  refine o_lor X hx (hb hby at_344) (pc' := 345) rfl ?_
  refine o_iload X hx (hb hby at_345) rfl (pc' := 347) rfl ?_
  refine o_i2l X hx (hb hby at_347) (pc' := 348) rfl ?_
  refine o_iload X hx (hb hby at_348) rfl (pc' := 350) rfl ?_
  refine o_lshl X hx (hb hby at_350) (pc' := 351) rfl ?_
  refine o_lor X hx (hb hby at_351) (pc' := 352) rfl ?_
  refine o_iload X hx (hb hby at_352) rfl (pc' := 354) rfl ?_
  refine o_i2l X hx (hb hby at_354) (pc' := 355) rfl ?_
  refine o_lor X hx (hb hby at_355) (pc' := 356) rfl ?_
  refine o_lstore X hx (hb hby at_356) #[.val (.int d0), .val (.int d1), .val (.int d2), .val (.long x3), .second, .val (.int d5), .val (.int d6), .val (.int x7), .val (.int d8), .val (.int x9), .val (.int x10), .val (.int x11), .val (.int d12), .val (.ref a90), .val (.int d14), .val (.int x15), .val (.int d16), .val (.int x17), .val (.int x18), .val (.int x19), .val (.long ((((x3 <<< (((3 : Int32) * x15) &&& 0x3f).toInt64) ||| ((x19.toInt64) <<< (((2 : Int32) * x15) &&& 0x3f).toInt64)) ||| ((x18.toInt64) <<< (x15 &&& 0x3f).toInt64)) ||| (x17.toInt64))), .second, .unset, .unset, .unset] rfl (pc' := 358) rfl ?_
  exact b0_358c hx hZ hw hby hml hown hnm hret hlk a90 c_a90 d0 d1 d2 x3 d5 d6 x7 d8 x9 x10 x11 d12 d14 x15 d16 x17 x18 x19 ((((x3 <<< (((3 : Int32) * x15) &&& 0x3f).toInt64) ||| ((x19.toInt64) <<< (((2 : Int32) * x15) &&& 0x3f).toInt64)) ||| ((x18.toInt64) <<< (x15 &&& 0x3f).toInt64)) ||| (x17.toInt64)) r X eT N hsz A_a90 g_a90 hr
def f0_304c (c_a90 : (Nat → Int32)) (x3 : Int64) (x5 : Int32) (x7 : Int32) (x9 : Int32) (x10 : Int32) (x11 : Int32) (x15 : Int32) (x16 : Int32) (x17 : Int32) (x18 : Int32) : Option (Int32) := (f0_330c c_a90 x3 x7 x9 x10 x11 x15 x17 x18 ((f1_0 (((x5.toUInt32 >>> ((7 : Int32) &&& 31).toUInt32).toInt32) &&& (3 : Int32)) x9 x10 x11 ((x5.toUInt32 >>> ((16 : Int32) &&& 31).toUInt32).toInt32)) &&& x16))
set_option maxRecDepth 65536 in
set_option maxHeartbeats 40000000 in
theorem b0_304c {p : Program} {l : Launch} {e : Env} {s : State} {m : MethodId} {args : Array Value} {below : List Frame} {meth : Method} {c : Code} {Z : State} {a0 : Array Value} {n0 : Nat} (hx : p.tables.exec = Jvm.exec) (hZ : Z.Warmed39 s.vm) (hw : ∀ d ∈ tables_1, d.before a0 Z = true) (hby : c.code = code) (hml : c.maxLocals = 25) (hown : s.vm.findClass "com/example/once_match/oncematch/PrefixRegisterStateAtEndPinLaw" = some m.cls) (hnm : meth.name = "law") (hret : meth.sig.returnType = some .boolean) (hlk : meth.locks = false)  {T : State} {locs : List Loc} {h : Heap} (a90 : Addr) (c_a90 : Nat → Int32) (d0 : Int32) (d1 : Int32) (d2 : Int32) (x3 : Int64) (x5 : Int32) (d6 : Int32) (x7 : Int32) (d8 : Int32) (x9 : Int32) (x10 : Int32) (x11 : Int32) (d12 : Int32) (d14 : Int32) (x15 : Int32) (x16 : Int32) (x17 : Int32) (x18 : Int32) (r : Int32) (X : Stand p l e room_1 s m args below meth c T locs 1 4) (eT : T.heap = h) (N : Fr n0 locs) (hsz : n0 ≤ h.size) (A_a90 : OAr Z h a90 .char 4 (ci c_a90)) (g_a90 : n0 ≤ a90) (hr : f0_304c c_a90 x3 x5 x7 x9 x10 x11 x15 x16 x17 x18 = some r) :
    OG p e below s (fun v h L => v = (some (.int r)) ∧ Fr n0 L) 16 128 T (mkF m 304 #[.val (.int d0), .val (.int d1), .val (.int d2), .val (.long x3), .second, .val (.int x5), .val (.int d6), .val (.int x7), .val (.int d8), .val (.int x9), .val (.int x10), .val (.int x11), .val (.int d12), .val (.ref a90), .val (.int d14), .val (.int x15), .val (.int x16), .val (.int x17), .val (.int x18), .unset, .unset, .unset, .unset, .unset, .unset] []) := by
  have hr : (f0_330c c_a90 x3 x7 x9 x10 x11 x15 x17 x18 ((f1_0 (((x5.toUInt32 >>> ((7 : Int32) &&& 31).toUInt32).toInt32) &&& (3 : Int32)) x9 x10 x11 ((x5.toUInt32 >>> ((16 : Int32) &&& 31).toUInt32).toInt32)) &&& x16)) = some r := hr
  refine o_iload X hx (hb hby at_304) rfl (pc' := 306) rfl ?_
  refine o_bipush X hx (hb hby at_306) (7 : Int32) rfl (pc' := 308) rfl ?_
  refine o_iushr X hx (hb hby at_308) (pc' := 309) rfl ?_
  refine o_iconst X hx (hb hby at_309) (3 : Int32) rfl (pc' := 310) rfl ?_
  refine o_iand X hx (hb hby at_310) (pc' := 311) rfl ?_
  refine o_iload X hx (hb hby at_311) rfl (pc' := 313) rfl ?_
  refine o_iload X hx (hb hby at_313) rfl (pc' := 315) rfl ?_
  refine o_iload X hx (hb hby at_315) rfl (pc' := 317) rfl ?_
  refine o_iload X hx (hb hby at_317) rfl (pc' := 319) rfl ?_
  refine o_bipush X hx (hb hby at_319) (16 : Int32) rfl (pc' := 321) rfl ?_
  refine o_iushr X hx (hb hby at_321) (pc' := 322) rfl ?_
  refine o_callS X hx hZ (argsL := [(.int (((x5.toUInt32 >>> ((7 : Int32) &&& 31).toUInt32).toInt32) &&& (3 : Int32))), (.int x9), (.int x10), (.int x11), (.int ((x5.toUInt32 >>> ((16 : Int32) &&& 31).toUInt32).toInt32))]) (rest := []) 0 hown eT (hw _ (List.mem_of_getElem? (i := 2) rfl)) (hw _ (List.mem_of_getElem? (i := 3) rfl)) (hw _ (List.mem_of_getElem? (i := 4) rfl)) (hw _ (List.mem_of_getElem? (i := 5) rfl)) (by decide) (rm1 l Z a0 hw [] (((x5.toUInt32 >>> ((7 : Int32) &&& 31).toUInt32).toInt32) &&& (3 : Int32)) x9 x10 x11 ((x5.toUInt32 >>> ((16 : Int32) &&& 31).toUInt32).toInt32) h n0 hsz (f1_0 (((x5.toUInt32 >>> ((7 : Int32) &&& 31).toUInt32).toInt32) &&& (3 : Int32)) x9 x10 x11 ((x5.toUInt32 >>> ((16 : Int32) &&& 31).toUInt32).toInt32)) rfl) (by decide) (by decide) (by rw [hml]; rfl) (lenOf pd_3 rfl) rfl (Nat.le_refl _) (hb hby at_322) (pc' := 325) rfl (by decide) (by decide) ?_
  rintro _ T100 L100 X100 ⟨rfl, N100, e100⟩
  replace X100 : Stand p l e room_1 s m args below meth c T100 (locs ++ L100) 1 4 := X100
  have M100 := Fr.app N N100
  dsimp only [Option.toList, List.cons_append, List.nil_append]
  refine o_iload X100 hx (hb hby at_325) rfl (pc' := 327) rfl ?_
  refine o_iand X100 hx (hb hby at_327) (pc' := 328) rfl ?_
  refine o_istore X100 hx (hb hby at_328) #[.val (.int d0), .val (.int d1), .val (.int d2), .val (.long x3), .second, .val (.int x5), .val (.int d6), .val (.int x7), .val (.int d8), .val (.int x9), .val (.int x10), .val (.int x11), .val (.int d12), .val (.ref a90), .val (.int d14), .val (.int x15), .val (.int x16), .val (.int x17), .val (.int x18), .val (.int ((f1_0 (((x5.toUInt32 >>> ((7 : Int32) &&& 31).toUInt32).toInt32) &&& (3 : Int32)) x9 x10 x11 ((x5.toUInt32 >>> ((16 : Int32) &&& 31).toUInt32).toInt32)) &&& x16)), .unset, .unset, .unset, .unset, .unset] rfl (pc' := 330) rfl ?_
  exact b0_330c hx hZ hw hby hml hown hnm hret hlk a90 c_a90 d0 d1 d2 x3 x5 d6 x7 d8 x9 x10 x11 d12 d14 x15 x16 x17 x18 ((f1_0 (((x5.toUInt32 >>> ((7 : Int32) &&& 31).toUInt32).toInt32) &&& (3 : Int32)) x9 x10 x11 ((x5.toUInt32 >>> ((16 : Int32) &&& 31).toUInt32).toInt32)) &&& x16) r X100 e100 M100 hsz A_a90 g_a90 hr
def f0_280c (c_a90 : (Nat → Int32)) (x2 : Int32) (x3 : Int64) (x5 : Int32) (x7 : Int32) (x9 : Int32) (x10 : Int32) (x11 : Int32) (x15 : Int32) (x16 : Int32) (x17 : Int32) : Option (Int32) := (f0_304c c_a90 x3 x5 x7 x9 x10 x11 x15 x16 x17 ((f1_0 (((x5.toUInt32 >>> ((5 : Int32) &&& 31).toUInt32).toInt32) &&& (3 : Int32)) x9 x10 x11 ((x2.toUInt32 >>> ((16 : Int32) &&& 31).toUInt32).toInt32)) &&& x16))
set_option maxRecDepth 65536 in
set_option maxHeartbeats 40000000 in
theorem b0_280c {p : Program} {l : Launch} {e : Env} {s : State} {m : MethodId} {args : Array Value} {below : List Frame} {meth : Method} {c : Code} {Z : State} {a0 : Array Value} {n0 : Nat} (hx : p.tables.exec = Jvm.exec) (hZ : Z.Warmed39 s.vm) (hw : ∀ d ∈ tables_1, d.before a0 Z = true) (hby : c.code = code) (hml : c.maxLocals = 25) (hown : s.vm.findClass "com/example/once_match/oncematch/PrefixRegisterStateAtEndPinLaw" = some m.cls) (hnm : meth.name = "law") (hret : meth.sig.returnType = some .boolean) (hlk : meth.locks = false)  {T : State} {locs : List Loc} {h : Heap} (a90 : Addr) (c_a90 : Nat → Int32) (d0 : Int32) (d1 : Int32) (x2 : Int32) (x3 : Int64) (x5 : Int32) (d6 : Int32) (x7 : Int32) (d8 : Int32) (x9 : Int32) (x10 : Int32) (x11 : Int32) (d12 : Int32) (d14 : Int32) (x15 : Int32) (x16 : Int32) (x17 : Int32) (r : Int32) (X : Stand p l e room_1 s m args below meth c T locs 1 4) (eT : T.heap = h) (N : Fr n0 locs) (hsz : n0 ≤ h.size) (A_a90 : OAr Z h a90 .char 4 (ci c_a90)) (g_a90 : n0 ≤ a90) (hr : f0_280c c_a90 x2 x3 x5 x7 x9 x10 x11 x15 x16 x17 = some r) :
    OG p e below s (fun v h L => v = (some (.int r)) ∧ Fr n0 L) 16 128 T (mkF m 280 #[.val (.int d0), .val (.int d1), .val (.int x2), .val (.long x3), .second, .val (.int x5), .val (.int d6), .val (.int x7), .val (.int d8), .val (.int x9), .val (.int x10), .val (.int x11), .val (.int d12), .val (.ref a90), .val (.int d14), .val (.int x15), .val (.int x16), .val (.int x17), .unset, .unset, .unset, .unset, .unset, .unset, .unset] []) := by
  have hr : (f0_304c c_a90 x3 x5 x7 x9 x10 x11 x15 x16 x17 ((f1_0 (((x5.toUInt32 >>> ((5 : Int32) &&& 31).toUInt32).toInt32) &&& (3 : Int32)) x9 x10 x11 ((x2.toUInt32 >>> ((16 : Int32) &&& 31).toUInt32).toInt32)) &&& x16)) = some r := hr
  refine o_iload X hx (hb hby at_280) rfl (pc' := 282) rfl ?_
  refine o_iconst X hx (hb hby at_282) (5 : Int32) rfl (pc' := 283) rfl ?_
  refine o_iushr X hx (hb hby at_283) (pc' := 284) rfl ?_
  refine o_iconst X hx (hb hby at_284) (3 : Int32) rfl (pc' := 285) rfl ?_
  refine o_iand X hx (hb hby at_285) (pc' := 286) rfl ?_
  refine o_iload X hx (hb hby at_286) rfl (pc' := 288) rfl ?_
  refine o_iload X hx (hb hby at_288) rfl (pc' := 290) rfl ?_
  refine o_iload X hx (hb hby at_290) rfl (pc' := 292) rfl ?_
  refine o_iload_n X hx (hb hby at_292) rfl (pc' := 293) rfl ?_
  refine o_bipush X hx (hb hby at_293) (16 : Int32) rfl (pc' := 295) rfl ?_
  refine o_iushr X hx (hb hby at_295) (pc' := 296) rfl ?_
  refine o_callS X hx hZ (argsL := [(.int (((x5.toUInt32 >>> ((5 : Int32) &&& 31).toUInt32).toInt32) &&& (3 : Int32))), (.int x9), (.int x10), (.int x11), (.int ((x2.toUInt32 >>> ((16 : Int32) &&& 31).toUInt32).toInt32))]) (rest := []) 0 hown eT (hw _ (List.mem_of_getElem? (i := 2) rfl)) (hw _ (List.mem_of_getElem? (i := 3) rfl)) (hw _ (List.mem_of_getElem? (i := 4) rfl)) (hw _ (List.mem_of_getElem? (i := 5) rfl)) (by decide) (rm1 l Z a0 hw [] (((x5.toUInt32 >>> ((5 : Int32) &&& 31).toUInt32).toInt32) &&& (3 : Int32)) x9 x10 x11 ((x2.toUInt32 >>> ((16 : Int32) &&& 31).toUInt32).toInt32) h n0 hsz (f1_0 (((x5.toUInt32 >>> ((5 : Int32) &&& 31).toUInt32).toInt32) &&& (3 : Int32)) x9 x10 x11 ((x2.toUInt32 >>> ((16 : Int32) &&& 31).toUInt32).toInt32)) rfl) (by decide) (by decide) (by rw [hml]; rfl) (lenOf pd_3 rfl) rfl (Nat.le_refl _) (hb hby at_296) (pc' := 299) rfl (by decide) (by decide) ?_
  rintro _ T99 L99 X99 ⟨rfl, N99, e99⟩
  replace X99 : Stand p l e room_1 s m args below meth c T99 (locs ++ L99) 1 4 := X99
  have M99 := Fr.app N N99
  dsimp only [Option.toList, List.cons_append, List.nil_append]
  refine o_iload X99 hx (hb hby at_299) rfl (pc' := 301) rfl ?_
  refine o_iand X99 hx (hb hby at_301) (pc' := 302) rfl ?_
  refine o_istore X99 hx (hb hby at_302) #[.val (.int d0), .val (.int d1), .val (.int x2), .val (.long x3), .second, .val (.int x5), .val (.int d6), .val (.int x7), .val (.int d8), .val (.int x9), .val (.int x10), .val (.int x11), .val (.int d12), .val (.ref a90), .val (.int d14), .val (.int x15), .val (.int x16), .val (.int x17), .val (.int ((f1_0 (((x5.toUInt32 >>> ((5 : Int32) &&& 31).toUInt32).toInt32) &&& (3 : Int32)) x9 x10 x11 ((x2.toUInt32 >>> ((16 : Int32) &&& 31).toUInt32).toInt32)) &&& x16)), .unset, .unset, .unset, .unset, .unset, .unset] rfl (pc' := 304) rfl ?_
  exact b0_304c hx hZ hw hby hml hown hnm hret hlk a90 c_a90 d0 d1 x2 x3 x5 d6 x7 d8 x9 x10 x11 d12 d14 x15 x16 x17 ((f1_0 (((x5.toUInt32 >>> ((5 : Int32) &&& 31).toUInt32).toInt32) &&& (3 : Int32)) x9 x10 x11 ((x2.toUInt32 >>> ((16 : Int32) &&& 31).toUInt32).toInt32)) &&& x16) r X99 e99 M99 hsz A_a90 g_a90 hr
def f0_254c (c_a90 : (Nat → Int32)) (x2 : Int32) (x3 : Int64) (x5 : Int32) (x7 : Int32) (x9 : Int32) (x10 : Int32) (x11 : Int32) (x15 : Int32) (t0 : Int32) : Option (Int32) := (f0_280c c_a90 x2 x3 x5 x7 x9 x10 x11 x15 t0 ((f1_0 (((x5.toUInt32 >>> ((3 : Int32) &&& 31).toUInt32).toInt32) &&& (3 : Int32)) x9 x10 x11 (x2 &&& (65535 : Int32))) &&& t0))
set_option maxRecDepth 65536 in
set_option maxHeartbeats 40000000 in
theorem b0_254c {p : Program} {l : Launch} {e : Env} {s : State} {m : MethodId} {args : Array Value} {below : List Frame} {meth : Method} {c : Code} {Z : State} {a0 : Array Value} {n0 : Nat} (hx : p.tables.exec = Jvm.exec) (hZ : Z.Warmed39 s.vm) (hw : ∀ d ∈ tables_1, d.before a0 Z = true) (hby : c.code = code) (hml : c.maxLocals = 25) (hown : s.vm.findClass "com/example/once_match/oncematch/PrefixRegisterStateAtEndPinLaw" = some m.cls) (hnm : meth.name = "law") (hret : meth.sig.returnType = some .boolean) (hlk : meth.locks = false)  {T : State} {locs : List Loc} {h : Heap} (a90 : Addr) (c_a90 : Nat → Int32) (d0 : Int32) (d1 : Int32) (x2 : Int32) (x3 : Int64) (x5 : Int32) (d6 : Int32) (x7 : Int32) (d8 : Int32) (x9 : Int32) (x10 : Int32) (x11 : Int32) (d12 : Int32) (d14 : Int32) (x15 : Int32) (t0 : Int32) (r : Int32) (X : Stand p l e room_1 s m args below meth c T locs 1 4) (eT : T.heap = h) (N : Fr n0 locs) (hsz : n0 ≤ h.size) (A_a90 : OAr Z h a90 .char 4 (ci c_a90)) (g_a90 : n0 ≤ a90) (hr : f0_254c c_a90 x2 x3 x5 x7 x9 x10 x11 x15 t0 = some r) :
    OG p e below s (fun v h L => v = (some (.int r)) ∧ Fr n0 L) 16 128 T (mkF m 254 #[.val (.int d0), .val (.int d1), .val (.int x2), .val (.long x3), .second, .val (.int x5), .val (.int d6), .val (.int x7), .val (.int d8), .val (.int x9), .val (.int x10), .val (.int x11), .val (.int d12), .val (.ref a90), .val (.int d14), .val (.int x15), .unset, .unset, .unset, .unset, .unset, .unset, .unset, .unset, .unset] [(.int t0)]) := by
  have hr : (f0_280c c_a90 x2 x3 x5 x7 x9 x10 x11 x15 t0 ((f1_0 (((x5.toUInt32 >>> ((3 : Int32) &&& 31).toUInt32).toInt32) &&& (3 : Int32)) x9 x10 x11 (x2 &&& (65535 : Int32))) &&& t0)) = some r := hr
  refine o_istore X hx (hb hby at_254) #[.val (.int d0), .val (.int d1), .val (.int x2), .val (.long x3), .second, .val (.int x5), .val (.int d6), .val (.int x7), .val (.int d8), .val (.int x9), .val (.int x10), .val (.int x11), .val (.int d12), .val (.ref a90), .val (.int d14), .val (.int x15), .val (.int t0), .unset, .unset, .unset, .unset, .unset, .unset, .unset, .unset] rfl (pc' := 256) rfl ?_
  refine o_iload X hx (hb hby at_256) rfl (pc' := 258) rfl ?_
  refine o_iconst X hx (hb hby at_258) (3 : Int32) rfl (pc' := 259) rfl ?_
  refine o_iushr X hx (hb hby at_259) (pc' := 260) rfl ?_
  refine o_iconst X hx (hb hby at_260) (3 : Int32) rfl (pc' := 261) rfl ?_
  refine o_iand X hx (hb hby at_261) (pc' := 262) rfl ?_
  refine o_iload X hx (hb hby at_262) rfl (pc' := 264) rfl ?_
  refine o_iload X hx (hb hby at_264) rfl (pc' := 266) rfl ?_
  refine o_iload X hx (hb hby at_266) rfl (pc' := 268) rfl ?_
  refine o_iload_n X hx (hb hby at_268) rfl (pc' := 269) rfl ?_
  refine o_ldcInt X hx hZ hown (hb hby at_269) (hw _ (List.mem_of_getElem? (i := 0) rfl)) (pc' := 271) rfl ?_
  refine o_iand X hx (hb hby at_271) (pc' := 272) rfl ?_
  refine o_callS X hx hZ (argsL := [(.int (((x5.toUInt32 >>> ((3 : Int32) &&& 31).toUInt32).toInt32) &&& (3 : Int32))), (.int x9), (.int x10), (.int x11), (.int (x2 &&& (65535 : Int32)))]) (rest := []) 0 hown eT (hw _ (List.mem_of_getElem? (i := 2) rfl)) (hw _ (List.mem_of_getElem? (i := 3) rfl)) (hw _ (List.mem_of_getElem? (i := 4) rfl)) (hw _ (List.mem_of_getElem? (i := 5) rfl)) (by decide) (rm1 l Z a0 hw [] (((x5.toUInt32 >>> ((3 : Int32) &&& 31).toUInt32).toInt32) &&& (3 : Int32)) x9 x10 x11 (x2 &&& (65535 : Int32)) h n0 hsz (f1_0 (((x5.toUInt32 >>> ((3 : Int32) &&& 31).toUInt32).toInt32) &&& (3 : Int32)) x9 x10 x11 (x2 &&& (65535 : Int32))) rfl) (by decide) (by decide) (by rw [hml]; rfl) (lenOf pd_3 rfl) rfl (Nat.le_refl _) (hb hby at_272) (pc' := 275) rfl (by decide) (by decide) ?_
  rintro _ T98 L98 X98 ⟨rfl, N98, e98⟩
  replace X98 : Stand p l e room_1 s m args below meth c T98 (locs ++ L98) 1 4 := X98
  have M98 := Fr.app N N98
  dsimp only [Option.toList, List.cons_append, List.nil_append]
  refine o_iload X98 hx (hb hby at_275) rfl (pc' := 277) rfl ?_
  refine o_iand X98 hx (hb hby at_277) (pc' := 278) rfl ?_
  refine o_istore X98 hx (hb hby at_278) #[.val (.int d0), .val (.int d1), .val (.int x2), .val (.long x3), .second, .val (.int x5), .val (.int d6), .val (.int x7), .val (.int d8), .val (.int x9), .val (.int x10), .val (.int x11), .val (.int d12), .val (.ref a90), .val (.int d14), .val (.int x15), .val (.int t0), .val (.int ((f1_0 (((x5.toUInt32 >>> ((3 : Int32) &&& 31).toUInt32).toInt32) &&& (3 : Int32)) x9 x10 x11 (x2 &&& (65535 : Int32))) &&& t0)), .unset, .unset, .unset, .unset, .unset, .unset, .unset] rfl (pc' := 280) rfl ?_
  exact b0_280c hx hZ hw hby hml hown hnm hret hlk a90 c_a90 d0 d1 x2 x3 x5 d6 x7 d8 x9 x10 x11 d12 d14 x15 t0 ((f1_0 (((x5.toUInt32 >>> ((3 : Int32) &&& 31).toUInt32).toInt32) &&& (3 : Int32)) x9 x10 x11 (x2 &&& (65535 : Int32))) &&& t0) r X98 e98 M98 hsz A_a90 g_a90 hr
def f0_239c (c_a90 : (Nat → Int32)) (x2 : Int32) (x3 : Int64) (x5 : Int32) (x7 : Int32) (x9 : Int32) (x10 : Int32) (x11 : Int32) (x14 : Int32) (t0 : Int32) : Option (Int32) := (if x14 = (0 : Int32) then (f0_254c c_a90 x2 x3 x5 x7 x9 x10 x11 t0 (65535 : Int32)) else (f0_254c c_a90 x2 x3 x5 x7 x9 x10 x11 t0 (255 : Int32)))
set_option maxRecDepth 65536 in
set_option maxHeartbeats 40000000 in
theorem b0_239c {p : Program} {l : Launch} {e : Env} {s : State} {m : MethodId} {args : Array Value} {below : List Frame} {meth : Method} {c : Code} {Z : State} {a0 : Array Value} {n0 : Nat} (hx : p.tables.exec = Jvm.exec) (hZ : Z.Warmed39 s.vm) (hw : ∀ d ∈ tables_1, d.before a0 Z = true) (hby : c.code = code) (hml : c.maxLocals = 25) (hown : s.vm.findClass "com/example/once_match/oncematch/PrefixRegisterStateAtEndPinLaw" = some m.cls) (hnm : meth.name = "law") (hret : meth.sig.returnType = some .boolean) (hlk : meth.locks = false)  {T : State} {locs : List Loc} {h : Heap} (a90 : Addr) (c_a90 : Nat → Int32) (d0 : Int32) (d1 : Int32) (x2 : Int32) (x3 : Int64) (x5 : Int32) (d6 : Int32) (x7 : Int32) (d8 : Int32) (x9 : Int32) (x10 : Int32) (x11 : Int32) (d12 : Int32) (x14 : Int32) (t0 : Int32) (r : Int32) (X : Stand p l e room_1 s m args below meth c T locs 1 4) (eT : T.heap = h) (N : Fr n0 locs) (hsz : n0 ≤ h.size) (A_a90 : OAr Z h a90 .char 4 (ci c_a90)) (g_a90 : n0 ≤ a90) (hr : f0_239c c_a90 x2 x3 x5 x7 x9 x10 x11 x14 t0 = some r) :
    OG p e below s (fun v h L => v = (some (.int r)) ∧ Fr n0 L) 16 128 T (mkF m 239 #[.val (.int d0), .val (.int d1), .val (.int x2), .val (.long x3), .second, .val (.int x5), .val (.int d6), .val (.int x7), .val (.int d8), .val (.int x9), .val (.int x10), .val (.int x11), .val (.int d12), .val (.ref a90), .val (.int x14), .unset, .unset, .unset, .unset, .unset, .unset, .unset, .unset, .unset, .unset] [(.int t0)]) := by
  have hr : (if x14 = (0 : Int32) then (f0_254c c_a90 x2 x3 x5 x7 x9 x10 x11 t0 (65535 : Int32)) else (f0_254c c_a90 x2 x3 x5 x7 x9 x10 x11 t0 (255 : Int32))) = some r := hr
  refine o_istore X hx (hb hby at_239) #[.val (.int d0), .val (.int d1), .val (.int x2), .val (.long x3), .second, .val (.int x5), .val (.int d6), .val (.int x7), .val (.int d8), .val (.int x9), .val (.int x10), .val (.int x11), .val (.int d12), .val (.ref a90), .val (.int x14), .val (.int t0), .unset, .unset, .unset, .unset, .unset, .unset, .unset, .unset, .unset] rfl (pc' := 241) rfl ?_
  refine o_iload X hx (hb hby at_241) rfl (pc' := 243) rfl ?_
  by_cases hc97 : x14 = (0 : Int32)
  · rw [if_pos hc97] at hr
    refine o_ifYes X hx (hb hby at_243) (z_teq hc97).1 (pc' := 252) (by decide) (by decide) ?_
    refine o_ldcInt X hx hZ hown (hb hby at_252) (hw _ (List.mem_of_getElem? (i := 0) rfl)) (pc' := 254) rfl ?_
    exact b0_254c hx hZ hw hby hml hown hnm hret hlk a90 c_a90 d0 d1 x2 x3 x5 d6 x7 d8 x9 x10 x11 d12 x14 t0 (65535 : Int32) r X eT N hsz A_a90 g_a90 hr
  · rw [if_neg hc97] at hr
    refine o_ifNo X hx (hb hby at_243) (z_feq hc97).1 (pc' := 246) rfl ?_
    refine o_sipush X hx (hb hby at_246) (255 : Int32) rfl (pc' := 249) rfl ?_
    refine o_goto X hx (hb hby at_249) (pc' := 254) (by decide) (by decide) ?_
    exact b0_254c hx hZ hw hby hml hown hnm hret hlk a90 c_a90 d0 d1 x2 x3 x5 d6 x7 d8 x9 x10 x11 d12 x14 t0 (255 : Int32) r X eT N hsz A_a90 g_a90 hr
def f0_225c (c_a90 : (Nat → Int32)) (x2 : Int32) (x3 : Int64) (x5 : Int32) (x7 : Int32) (x9 : Int32) (x10 : Int32) (x11 : Int32) (t0 : Int32) : Option (Int32) := (if t0 = (0 : Int32) then (f0_239c c_a90 x2 x3 x5 x7 x9 x10 x11 t0 (16 : Int32)) else (f0_239c c_a90 x2 x3 x5 x7 x9 x10 x11 t0 (8 : Int32)))
set_option maxRecDepth 65536 in
set_option maxHeartbeats 40000000 in
theorem b0_225c {p : Program} {l : Launch} {e : Env} {s : State} {m : MethodId} {args : Array Value} {below : List Frame} {meth : Method} {c : Code} {Z : State} {a0 : Array Value} {n0 : Nat} (hx : p.tables.exec = Jvm.exec) (hZ : Z.Warmed39 s.vm) (hw : ∀ d ∈ tables_1, d.before a0 Z = true) (hby : c.code = code) (hml : c.maxLocals = 25) (hown : s.vm.findClass "com/example/once_match/oncematch/PrefixRegisterStateAtEndPinLaw" = some m.cls) (hnm : meth.name = "law") (hret : meth.sig.returnType = some .boolean) (hlk : meth.locks = false)  {T : State} {locs : List Loc} {h : Heap} (a90 : Addr) (c_a90 : Nat → Int32) (d0 : Int32) (d1 : Int32) (x2 : Int32) (x3 : Int64) (x5 : Int32) (d6 : Int32) (x7 : Int32) (d8 : Int32) (x9 : Int32) (x10 : Int32) (x11 : Int32) (d12 : Int32) (t0 : Int32) (r : Int32) (X : Stand p l e room_1 s m args below meth c T locs 1 4) (eT : T.heap = h) (N : Fr n0 locs) (hsz : n0 ≤ h.size) (A_a90 : OAr Z h a90 .char 4 (ci c_a90)) (g_a90 : n0 ≤ a90) (hr : f0_225c c_a90 x2 x3 x5 x7 x9 x10 x11 t0 = some r) :
    OG p e below s (fun v h L => v = (some (.int r)) ∧ Fr n0 L) 16 128 T (mkF m 225 #[.val (.int d0), .val (.int d1), .val (.int x2), .val (.long x3), .second, .val (.int x5), .val (.int d6), .val (.int x7), .val (.int d8), .val (.int x9), .val (.int x10), .val (.int x11), .val (.int d12), .val (.ref a90), .unset, .unset, .unset, .unset, .unset, .unset, .unset, .unset, .unset, .unset, .unset] [(.int t0)]) := by
  have hr : (if t0 = (0 : Int32) then (f0_239c c_a90 x2 x3 x5 x7 x9 x10 x11 t0 (16 : Int32)) else (f0_239c c_a90 x2 x3 x5 x7 x9 x10 x11 t0 (8 : Int32))) = some r := hr
  refine o_istore X hx (hb hby at_225) #[.val (.int d0), .val (.int d1), .val (.int x2), .val (.long x3), .second, .val (.int x5), .val (.int d6), .val (.int x7), .val (.int d8), .val (.int x9), .val (.int x10), .val (.int x11), .val (.int d12), .val (.ref a90), .val (.int t0), .unset, .unset, .unset, .unset, .unset, .unset, .unset, .unset, .unset, .unset] rfl (pc' := 227) rfl ?_
  refine o_iload X hx (hb hby at_227) rfl (pc' := 229) rfl ?_
  by_cases hc96 : t0 = (0 : Int32)
  · rw [if_pos hc96] at hr
    refine o_ifYes X hx (hb hby at_229) (z_teq hc96).1 (pc' := 237) (by decide) (by decide) ?_
    refine o_bipush X hx (hb hby at_237) (16 : Int32) rfl (pc' := 239) rfl ?_
    exact b0_239c hx hZ hw hby hml hown hnm hret hlk a90 c_a90 d0 d1 x2 x3 x5 d6 x7 d8 x9 x10 x11 d12 t0 (16 : Int32) r X eT N hsz A_a90 g_a90 hr
  · rw [if_neg hc96] at hr
    refine o_ifNo X hx (hb hby at_229) (z_feq hc96).1 (pc' := 232) rfl ?_
    refine o_bipush X hx (hb hby at_232) (8 : Int32) rfl (pc' := 234) rfl ?_
    refine o_goto X hx (hb hby at_234) (pc' := 239) (by decide) (by decide) ?_
    exact b0_239c hx hZ hw hby hml hown hnm hret hlk a90 c_a90 d0 d1 x2 x3 x5 d6 x7 d8 x9 x10 x11 d12 t0 (8 : Int32) r X eT N hsz A_a90 g_a90 hr
def f0_224c (c_a90 : (Nat → Int32)) (x2 : Int32) (x3 : Int64) (x5 : Int32) (x7 : Int32) (x9 : Int32) (x10 : Int32) (x11 : Int32) : Option (Int32) := (f0_225c c_a90 x2 x3 x5 x7 x9 x10 x11 (0 : Int32))
set_option maxRecDepth 65536 in
set_option maxHeartbeats 40000000 in
theorem b0_224c {p : Program} {l : Launch} {e : Env} {s : State} {m : MethodId} {args : Array Value} {below : List Frame} {meth : Method} {c : Code} {Z : State} {a0 : Array Value} {n0 : Nat} (hx : p.tables.exec = Jvm.exec) (hZ : Z.Warmed39 s.vm) (hw : ∀ d ∈ tables_1, d.before a0 Z = true) (hby : c.code = code) (hml : c.maxLocals = 25) (hown : s.vm.findClass "com/example/once_match/oncematch/PrefixRegisterStateAtEndPinLaw" = some m.cls) (hnm : meth.name = "law") (hret : meth.sig.returnType = some .boolean) (hlk : meth.locks = false)  {T : State} {locs : List Loc} {h : Heap} (a90 : Addr) (c_a90 : Nat → Int32) (d0 : Int32) (d1 : Int32) (x2 : Int32) (x3 : Int64) (x5 : Int32) (d6 : Int32) (x7 : Int32) (d8 : Int32) (x9 : Int32) (x10 : Int32) (x11 : Int32) (d12 : Int32) (r : Int32) (X : Stand p l e room_1 s m args below meth c T locs 1 4) (eT : T.heap = h) (N : Fr n0 locs) (hsz : n0 ≤ h.size) (A_a90 : OAr Z h a90 .char 4 (ci c_a90)) (g_a90 : n0 ≤ a90) (hr : f0_224c c_a90 x2 x3 x5 x7 x9 x10 x11 = some r) :
    OG p e below s (fun v h L => v = (some (.int r)) ∧ Fr n0 L) 16 128 T (mkF m 224 #[.val (.int d0), .val (.int d1), .val (.int x2), .val (.long x3), .second, .val (.int x5), .val (.int d6), .val (.int x7), .val (.int d8), .val (.int x9), .val (.int x10), .val (.int x11), .val (.int d12), .val (.ref a90), .unset, .unset, .unset, .unset, .unset, .unset, .unset, .unset, .unset, .unset, .unset] []) := by
  have hr : (f0_225c c_a90 x2 x3 x5 x7 x9 x10 x11 (0 : Int32)) = some r := hr
  refine o_iconst X hx (hb hby at_224) (0 : Int32) rfl (pc' := 225) rfl ?_
  exact b0_225c hx hZ hw hby hml hown hnm hret hlk a90 c_a90 d0 d1 x2 x3 x5 d6 x7 d8 x9 x10 x11 d12 (0 : Int32) r X eT N hsz A_a90 g_a90 hr
def f0_220c (c_a90 : (Nat → Int32)) (x2 : Int32) (x3 : Int64) (x5 : Int32) (x7 : Int32) (x9 : Int32) (x10 : Int32) (x11 : Int32) : Option (Int32) := (f0_225c c_a90 x2 x3 x5 x7 x9 x10 x11 (1 : Int32))
set_option maxRecDepth 65536 in
set_option maxHeartbeats 40000000 in
theorem b0_220c {p : Program} {l : Launch} {e : Env} {s : State} {m : MethodId} {args : Array Value} {below : List Frame} {meth : Method} {c : Code} {Z : State} {a0 : Array Value} {n0 : Nat} (hx : p.tables.exec = Jvm.exec) (hZ : Z.Warmed39 s.vm) (hw : ∀ d ∈ tables_1, d.before a0 Z = true) (hby : c.code = code) (hml : c.maxLocals = 25) (hown : s.vm.findClass "com/example/once_match/oncematch/PrefixRegisterStateAtEndPinLaw" = some m.cls) (hnm : meth.name = "law") (hret : meth.sig.returnType = some .boolean) (hlk : meth.locks = false)  {T : State} {locs : List Loc} {h : Heap} (a90 : Addr) (c_a90 : Nat → Int32) (d0 : Int32) (d1 : Int32) (x2 : Int32) (x3 : Int64) (x5 : Int32) (d6 : Int32) (x7 : Int32) (d8 : Int32) (x9 : Int32) (x10 : Int32) (x11 : Int32) (d12 : Int32) (r : Int32) (X : Stand p l e room_1 s m args below meth c T locs 1 4) (eT : T.heap = h) (N : Fr n0 locs) (hsz : n0 ≤ h.size) (A_a90 : OAr Z h a90 .char 4 (ci c_a90)) (g_a90 : n0 ≤ a90) (hr : f0_220c c_a90 x2 x3 x5 x7 x9 x10 x11 = some r) :
    OG p e below s (fun v h L => v = (some (.int r)) ∧ Fr n0 L) 16 128 T (mkF m 220 #[.val (.int d0), .val (.int d1), .val (.int x2), .val (.long x3), .second, .val (.int x5), .val (.int d6), .val (.int x7), .val (.int d8), .val (.int x9), .val (.int x10), .val (.int x11), .val (.int d12), .val (.ref a90), .unset, .unset, .unset, .unset, .unset, .unset, .unset, .unset, .unset, .unset, .unset] []) := by
  have hr : (f0_225c c_a90 x2 x3 x5 x7 x9 x10 x11 (1 : Int32)) = some r := hr
  refine o_iconst X hx (hb hby at_220) (1 : Int32) rfl (pc' := 221) rfl ?_
  refine o_goto X hx (hb hby at_221) (pc' := 225) (by decide) (by decide) ?_
  exact b0_225c hx hZ hw hby hml hown hnm hret hlk a90 c_a90 d0 d1 x2 x3 x5 d6 x7 d8 x9 x10 x11 d12 (1 : Int32) r X eT N hsz A_a90 g_a90 hr
def f0_206c (c_a90 : (Nat → Int32)) (x2 : Int32) (x3 : Int64) (x5 : Int32) (x7 : Int32) (x9 : Int32) (x10 : Int32) (x11 : Int32) (x12 : Int32) : Option (Int32) := (if x7 < (4 : Int32) then (f0_220c c_a90 x2 x3 x5 x7 x9 x10 x11) else (if (255 : Int32) < x12 then (f0_224c c_a90 x2 x3 x5 x7 x9 x10 x11) else (f0_220c c_a90 x2 x3 x5 x7 x9 x10 x11)))
set_option maxRecDepth 65536 in
set_option maxHeartbeats 40000000 in
theorem b0_206c {p : Program} {l : Launch} {e : Env} {s : State} {m : MethodId} {args : Array Value} {below : List Frame} {meth : Method} {c : Code} {Z : State} {a0 : Array Value} {n0 : Nat} (hx : p.tables.exec = Jvm.exec) (hZ : Z.Warmed39 s.vm) (hw : ∀ d ∈ tables_1, d.before a0 Z = true) (hby : c.code = code) (hml : c.maxLocals = 25) (hown : s.vm.findClass "com/example/once_match/oncematch/PrefixRegisterStateAtEndPinLaw" = some m.cls) (hnm : meth.name = "law") (hret : meth.sig.returnType = some .boolean) (hlk : meth.locks = false)  {T : State} {locs : List Loc} {h : Heap} (a90 : Addr) (c_a90 : Nat → Int32) (d0 : Int32) (d1 : Int32) (x2 : Int32) (x3 : Int64) (x5 : Int32) (d6 : Int32) (x7 : Int32) (d8 : Int32) (x9 : Int32) (x10 : Int32) (x11 : Int32) (x12 : Int32) (r : Int32) (X : Stand p l e room_1 s m args below meth c T locs 1 4) (eT : T.heap = h) (N : Fr n0 locs) (hsz : n0 ≤ h.size) (A_a90 : OAr Z h a90 .char 4 (ci c_a90)) (g_a90 : n0 ≤ a90) (hr : f0_206c c_a90 x2 x3 x5 x7 x9 x10 x11 x12 = some r) :
    OG p e below s (fun v h L => v = (some (.int r)) ∧ Fr n0 L) 16 128 T (mkF m 206 #[.val (.int d0), .val (.int d1), .val (.int x2), .val (.long x3), .second, .val (.int x5), .val (.int d6), .val (.int x7), .val (.int d8), .val (.int x9), .val (.int x10), .val (.int x11), .val (.int x12), .val (.ref a90), .unset, .unset, .unset, .unset, .unset, .unset, .unset, .unset, .unset, .unset, .unset] []) := by
  have hr : (if x7 < (4 : Int32) then (f0_220c c_a90 x2 x3 x5 x7 x9 x10 x11) else (if (255 : Int32) < x12 then (f0_224c c_a90 x2 x3 x5 x7 x9 x10 x11) else (f0_220c c_a90 x2 x3 x5 x7 x9 x10 x11))) = some r := hr
  refine o_iload X hx (hb hby at_206) rfl (pc' := 208) rfl ?_
  refine o_iconst X hx (hb hby at_208) (4 : Int32) rfl (pc' := 209) rfl ?_
  by_cases hc116 : x7 < (4 : Int32)
  · rw [if_pos hc116] at hr
    refine o_icmpYes X hx (hb hby at_209) (c_tlt hc116).1 (pc' := 220) (by decide) (by decide) ?_
    exact b0_220c hx hZ hw hby hml hown hnm hret hlk a90 c_a90 d0 d1 x2 x3 x5 d6 x7 d8 x9 x10 x11 x12 r X eT N hsz A_a90 g_a90 hr
  · rw [if_neg hc116] at hr
    refine o_icmpNo X hx (hb hby at_209) (c_flt hc116).1 (pc' := 212) rfl ?_
    refine o_iload X hx (hb hby at_212) rfl (pc' := 214) rfl ?_
    refine o_sipush X hx (hb hby at_214) (255 : Int32) rfl (pc' := 217) rfl ?_
    by_cases hc117 : (255 : Int32) < x12
    · rw [if_pos hc117] at hr
      refine o_icmpYes X hx (hb hby at_217) (c_tgt hc117).1 (pc' := 224) (by decide) (by decide) ?_
      exact b0_224c hx hZ hw hby hml hown hnm hret hlk a90 c_a90 d0 d1 x2 x3 x5 d6 x7 d8 x9 x10 x11 x12 r X eT N hsz A_a90 g_a90 hr
    · rw [if_neg hc117] at hr
      refine o_icmpNo X hx (hb hby at_217) (c_fgt hc117).1 (pc' := 220) rfl ?_
      exact b0_220c hx hZ hw hby hml hown hnm hret hlk a90 c_a90 d0 d1 x2 x3 x5 d6 x7 d8 x9 x10 x11 x12 r X eT N hsz A_a90 g_a90 hr
def f0_192c (c_a90 : (Nat → Int32)) (x2 : Int32) (x3 : Int64) (x5 : Int32) (x7 : Int32) (x9 : Int32) (x10 : Int32) (x11 : Int32) (x12 : Int32) : Option (Int32) := (if x7 < (3 : Int32) then (f0_206c c_a90 x2 x3 x5 x7 x9 x10 x11 x12) else (if (255 : Int32) < x11 then (f0_224c c_a90 x2 x3 x5 x7 x9 x10 x11) else (f0_206c c_a90 x2 x3 x5 x7 x9 x10 x11 x12)))
set_option maxRecDepth 65536 in
set_option maxHeartbeats 40000000 in
theorem b0_192c {p : Program} {l : Launch} {e : Env} {s : State} {m : MethodId} {args : Array Value} {below : List Frame} {meth : Method} {c : Code} {Z : State} {a0 : Array Value} {n0 : Nat} (hx : p.tables.exec = Jvm.exec) (hZ : Z.Warmed39 s.vm) (hw : ∀ d ∈ tables_1, d.before a0 Z = true) (hby : c.code = code) (hml : c.maxLocals = 25) (hown : s.vm.findClass "com/example/once_match/oncematch/PrefixRegisterStateAtEndPinLaw" = some m.cls) (hnm : meth.name = "law") (hret : meth.sig.returnType = some .boolean) (hlk : meth.locks = false)  {T : State} {locs : List Loc} {h : Heap} (a90 : Addr) (c_a90 : Nat → Int32) (d0 : Int32) (d1 : Int32) (x2 : Int32) (x3 : Int64) (x5 : Int32) (d6 : Int32) (x7 : Int32) (d8 : Int32) (x9 : Int32) (x10 : Int32) (x11 : Int32) (x12 : Int32) (r : Int32) (X : Stand p l e room_1 s m args below meth c T locs 1 4) (eT : T.heap = h) (N : Fr n0 locs) (hsz : n0 ≤ h.size) (A_a90 : OAr Z h a90 .char 4 (ci c_a90)) (g_a90 : n0 ≤ a90) (hr : f0_192c c_a90 x2 x3 x5 x7 x9 x10 x11 x12 = some r) :
    OG p e below s (fun v h L => v = (some (.int r)) ∧ Fr n0 L) 16 128 T (mkF m 192 #[.val (.int d0), .val (.int d1), .val (.int x2), .val (.long x3), .second, .val (.int x5), .val (.int d6), .val (.int x7), .val (.int d8), .val (.int x9), .val (.int x10), .val (.int x11), .val (.int x12), .val (.ref a90), .unset, .unset, .unset, .unset, .unset, .unset, .unset, .unset, .unset, .unset, .unset] []) := by
  have hr : (if x7 < (3 : Int32) then (f0_206c c_a90 x2 x3 x5 x7 x9 x10 x11 x12) else (if (255 : Int32) < x11 then (f0_224c c_a90 x2 x3 x5 x7 x9 x10 x11) else (f0_206c c_a90 x2 x3 x5 x7 x9 x10 x11 x12))) = some r := hr
  refine o_iload X hx (hb hby at_192) rfl (pc' := 194) rfl ?_
  refine o_iconst X hx (hb hby at_194) (3 : Int32) rfl (pc' := 195) rfl ?_
  by_cases hc115 : x7 < (3 : Int32)
  · rw [if_pos hc115] at hr
    refine o_icmpYes X hx (hb hby at_195) (c_tlt hc115).1 (pc' := 206) (by decide) (by decide) ?_
    exact b0_206c hx hZ hw hby hml hown hnm hret hlk a90 c_a90 d0 d1 x2 x3 x5 d6 x7 d8 x9 x10 x11 x12 r X eT N hsz A_a90 g_a90 hr
  · rw [if_neg hc115] at hr
    refine o_icmpNo X hx (hb hby at_195) (c_flt hc115).1 (pc' := 198) rfl ?_
    refine o_iload X hx (hb hby at_198) rfl (pc' := 200) rfl ?_
    refine o_sipush X hx (hb hby at_200) (255 : Int32) rfl (pc' := 203) rfl ?_
    by_cases hc118 : (255 : Int32) < x11
    · rw [if_pos hc118] at hr
      refine o_icmpYes X hx (hb hby at_203) (c_tgt hc118).1 (pc' := 224) (by decide) (by decide) ?_
      exact b0_224c hx hZ hw hby hml hown hnm hret hlk a90 c_a90 d0 d1 x2 x3 x5 d6 x7 d8 x9 x10 x11 x12 r X eT N hsz A_a90 g_a90 hr
    · rw [if_neg hc118] at hr
      refine o_icmpNo X hx (hb hby at_203) (c_fgt hc118).1 (pc' := 206) rfl ?_
      exact b0_206c hx hZ hw hby hml hown hnm hret hlk a90 c_a90 d0 d1 x2 x3 x5 d6 x7 d8 x9 x10 x11 x12 r X eT N hsz A_a90 g_a90 hr
def f0_170c (c_a90 : (Nat → Int32)) (x2 : Int32) (x3 : Int64) (x5 : Int32) (x7 : Int32) (x9 : Int32) (x10 : Int32) (x11 : Int32) (x12 : Int32) : Option (Int32) := (if (255 : Int32) < x9 then (f0_224c c_a90 x2 x3 x5 x7 x9 x10 x11) else (if x7 < (2 : Int32) then (f0_192c c_a90 x2 x3 x5 x7 x9 x10 x11 x12) else (if (255 : Int32) < x10 then (f0_224c c_a90 x2 x3 x5 x7 x9 x10 x11) else (f0_192c c_a90 x2 x3 x5 x7 x9 x10 x11 x12))))
set_option maxRecDepth 65536 in
set_option maxHeartbeats 40000000 in
theorem b0_170c {p : Program} {l : Launch} {e : Env} {s : State} {m : MethodId} {args : Array Value} {below : List Frame} {meth : Method} {c : Code} {Z : State} {a0 : Array Value} {n0 : Nat} (hx : p.tables.exec = Jvm.exec) (hZ : Z.Warmed39 s.vm) (hw : ∀ d ∈ tables_1, d.before a0 Z = true) (hby : c.code = code) (hml : c.maxLocals = 25) (hown : s.vm.findClass "com/example/once_match/oncematch/PrefixRegisterStateAtEndPinLaw" = some m.cls) (hnm : meth.name = "law") (hret : meth.sig.returnType = some .boolean) (hlk : meth.locks = false)  {T : State} {locs : List Loc} {h : Heap} (a90 : Addr) (c_a90 : Nat → Int32) (d0 : Int32) (d1 : Int32) (x2 : Int32) (x3 : Int64) (x5 : Int32) (d6 : Int32) (x7 : Int32) (d8 : Int32) (x9 : Int32) (x10 : Int32) (x11 : Int32) (x12 : Int32) (r : Int32) (X : Stand p l e room_1 s m args below meth c T locs 1 4) (eT : T.heap = h) (N : Fr n0 locs) (hsz : n0 ≤ h.size) (A_a90 : OAr Z h a90 .char 4 (ci c_a90)) (g_a90 : n0 ≤ a90) (hr : f0_170c c_a90 x2 x3 x5 x7 x9 x10 x11 x12 = some r) :
    OG p e below s (fun v h L => v = (some (.int r)) ∧ Fr n0 L) 16 128 T (mkF m 170 #[.val (.int d0), .val (.int d1), .val (.int x2), .val (.long x3), .second, .val (.int x5), .val (.int d6), .val (.int x7), .val (.int d8), .val (.int x9), .val (.int x10), .val (.int x11), .val (.int x12), .val (.ref a90), .unset, .unset, .unset, .unset, .unset, .unset, .unset, .unset, .unset, .unset, .unset] []) := by
  have hr : (if (255 : Int32) < x9 then (f0_224c c_a90 x2 x3 x5 x7 x9 x10 x11) else (if x7 < (2 : Int32) then (f0_192c c_a90 x2 x3 x5 x7 x9 x10 x11 x12) else (if (255 : Int32) < x10 then (f0_224c c_a90 x2 x3 x5 x7 x9 x10 x11) else (f0_192c c_a90 x2 x3 x5 x7 x9 x10 x11 x12)))) = some r := hr
  refine o_iload X hx (hb hby at_170) rfl (pc' := 172) rfl ?_
  refine o_sipush X hx (hb hby at_172) (255 : Int32) rfl (pc' := 175) rfl ?_
  by_cases hc95 : (255 : Int32) < x9
  · rw [if_pos hc95] at hr
    refine o_icmpYes X hx (hb hby at_175) (c_tgt hc95).1 (pc' := 224) (by decide) (by decide) ?_
    exact b0_224c hx hZ hw hby hml hown hnm hret hlk a90 c_a90 d0 d1 x2 x3 x5 d6 x7 d8 x9 x10 x11 x12 r X eT N hsz A_a90 g_a90 hr
  · rw [if_neg hc95] at hr
    refine o_icmpNo X hx (hb hby at_175) (c_fgt hc95).1 (pc' := 178) rfl ?_
    refine o_iload X hx (hb hby at_178) rfl (pc' := 180) rfl ?_
    refine o_iconst X hx (hb hby at_180) (2 : Int32) rfl (pc' := 181) rfl ?_
    by_cases hc114 : x7 < (2 : Int32)
    · rw [if_pos hc114] at hr
      refine o_icmpYes X hx (hb hby at_181) (c_tlt hc114).1 (pc' := 192) (by decide) (by decide) ?_
      exact b0_192c hx hZ hw hby hml hown hnm hret hlk a90 c_a90 d0 d1 x2 x3 x5 d6 x7 d8 x9 x10 x11 x12 r X eT N hsz A_a90 g_a90 hr
    · rw [if_neg hc114] at hr
      refine o_icmpNo X hx (hb hby at_181) (c_flt hc114).1 (pc' := 184) rfl ?_
      refine o_iload X hx (hb hby at_184) rfl (pc' := 186) rfl ?_
      refine o_sipush X hx (hb hby at_186) (255 : Int32) rfl (pc' := 189) rfl ?_
      by_cases hc119 : (255 : Int32) < x10
      · rw [if_pos hc119] at hr
        refine o_icmpYes X hx (hb hby at_189) (c_tgt hc119).1 (pc' := 224) (by decide) (by decide) ?_
        exact b0_224c hx hZ hw hby hml hown hnm hret hlk a90 c_a90 d0 d1 x2 x3 x5 d6 x7 d8 x9 x10 x11 x12 r X eT N hsz A_a90 g_a90 hr
      · rw [if_neg hc119] at hr
        refine o_icmpNo X hx (hb hby at_189) (c_fgt hc119).1 (pc' := 192) rfl ?_
        exact b0_192c hx hZ hw hby hml hown hnm hret hlk a90 c_a90 d0 d1 x2 x3 x5 d6 x7 d8 x9 x10 x11 x12 r X eT N hsz A_a90 g_a90 hr
def f0_73 (x2 : Int32) (x3 : Int64) (x5 : Int32) (x7 : Int32) (x9 : Int32) (x10 : Int32) (x11 : Int32) (x12 : Int32) : Option (Int32) := (if x7 = (1 : Int32) then (f0_170 (li [(nar .char x9)]) x2 x3 x5 x7 x9 x10 x11 x12) else (if x7 = (2 : Int32) then (f0_170a (li [(nar .char x9), (nar .char x10)]) x2 x3 x5 x7 x9 x10 x11 x12) else (if x7 = (3 : Int32) then (f0_170b (li [(nar .char x9), (nar .char x10), (nar .char x11)]) x2 x3 x5 x7 x9 x10 x11 x12) else (f0_170c (li [(nar .char x9), (nar .char x10), (nar .char x11), (nar .char x12)]) x2 x3 x5 x7 x9 x10 x11 x12))))
set_option maxRecDepth 65536 in
set_option maxHeartbeats 40000000 in
theorem b0_73 {p : Program} {l : Launch} {e : Env} {s : State} {m : MethodId} {args : Array Value} {below : List Frame} {meth : Method} {c : Code} {Z : State} {a0 : Array Value} {n0 : Nat} (hx : p.tables.exec = Jvm.exec) (hZ : Z.Warmed39 s.vm) (hw : ∀ d ∈ tables_1, d.before a0 Z = true) (hby : c.code = code) (hml : c.maxLocals = 25) (hown : s.vm.findClass "com/example/once_match/oncematch/PrefixRegisterStateAtEndPinLaw" = some m.cls) (hnm : meth.name = "law") (hret : meth.sig.returnType = some .boolean) (hlk : meth.locks = false)  {T : State} {locs : List Loc} {h : Heap} (d0 : Int32) (d1 : Int32) (x2 : Int32) (x3 : Int64) (x5 : Int32) (d6 : Int32) (x7 : Int32) (d8 : Int32) (x9 : Int32) (x10 : Int32) (x11 : Int32) (x12 : Int32) (r : Int32) (X : Stand p l e room_1 s m args below meth c T locs 0 0) (eT : T.heap = h) (N : Fr n0 locs) (hsz : n0 ≤ h.size) (hr : f0_73 x2 x3 x5 x7 x9 x10 x11 x12 = some r) :
    OG p e below s (fun v h L => v = (some (.int r)) ∧ Fr n0 L) 16 128 T (mkF m 73 #[.val (.int d0), .val (.int d1), .val (.int x2), .val (.long x3), .second, .val (.int x5), .val (.int d6), .val (.int x7), .val (.int d8), .val (.int x9), .val (.int x10), .val (.int x11), .val (.int x12), .unset, .unset, .unset, .unset, .unset, .unset, .unset, .unset, .unset, .unset, .unset, .unset] []) := by
  have hr : (if x7 = (1 : Int32) then (f0_170 (li [(nar .char x9)]) x2 x3 x5 x7 x9 x10 x11 x12) else (if x7 = (2 : Int32) then (f0_170a (li [(nar .char x9), (nar .char x10)]) x2 x3 x5 x7 x9 x10 x11 x12) else (if x7 = (3 : Int32) then (f0_170b (li [(nar .char x9), (nar .char x10), (nar .char x11)]) x2 x3 x5 x7 x9 x10 x11 x12) else (f0_170c (li [(nar .char x9), (nar .char x10), (nar .char x11), (nar .char x12)]) x2 x3 x5 x7 x9 x10 x11 x12)))) = some r := hr
  refine o_iload X hx (hb hby at_73) rfl (pc' := 75) rfl ?_
  refine o_iconst X hx (hb hby at_75) (1 : Int32) rfl (pc' := 76) rfl ?_
  by_cases hc3 : x7 = (1 : Int32)
  · rw [if_pos hc3] at hr
    refine o_icmpNo X hx (hb hby at_76) (c_teq hc3).2 (pc' := 79) rfl ?_
    refine o_iconst X hx (hb hby at_79) (1 : Int32) rfl (pc' := 80) rfl ?_
    refine o_newarr X hx hZ eT (hw _ (List.mem_of_getElem? (i := 1) rfl)) (hb hby at_80) (by decide) 1 (by decide) (by decide) (by decide) (by decide) (pc' := 82) rfl ?_
    intro T4 h4 a4 X4 e4 q4 E4 A4
    have g4 : n0 ≤ a4 := Nat.le_trans hsz (Nat.le_of_eq q4.symm)
    have z4 : n0 ≤ h4.size := Nat.le_trans hsz E4.1
    replace A4 : OAr Z h4 a4 .char 1 (ci (li [(0 : Int32)])) := OAr.zeros (k := 1) A4
    refine o_dup X4 hx (hb hby at_82) rfl (pc' := 83) rfl ?_
    refine o_iconst X4 hx (hb hby at_83) (0 : Int32) rfl (pc' := 84) rfl ?_
    refine o_iload X4 hx (hb hby at_84) rfl (pc' := 86) rfl ?_
    refine o_castore X4 hx hZ e4 A4 (hb hby at_86) (by decide) (by decide) (pc' := 87) rfl ?_
    intro T5 h5 X5 e5 W5
    have A5 : OAr Z h5 a4 .char 1 (ci (li [(nar .char x9)])) := OAr.setI (j := 0) (x := (nar .char x9)) W5 A4 (Nat.le_of_ble_eq_true rfl)
    have N5 := Fr.snoc X5 N g4
    have z5 : n0 ≤ h5.size := Nat.le_trans z4 (Keep.of_wr W5).1
    refine o_astore X5 hx (hb hby at_87) rfl #[.val (.int d0), .val (.int d1), .val (.int x2), .val (.long x3), .second, .val (.int x5), .val (.int d6), .val (.int x7), .val (.int d8), .val (.int x9), .val (.int x10), .val (.int x11), .val (.int x12), .val (.ref a4), .unset, .unset, .unset, .unset, .unset, .unset, .unset, .unset, .unset, .unset, .unset] rfl (pc' := 89) rfl ?_
    refine o_goto X5 hx (hb hby at_89) (pc' := 170) (by decide) (by decide) ?_
    exact b0_170 hx hZ hw hby hml hown hnm hret hlk a4 (li [(nar .char x9)]) d0 d1 x2 x3 x5 d6 x7 d8 x9 x10 x11 x12 r X5 e5 N5 z5 A5 g4 hr
  · rw [if_neg hc3] at hr
    refine o_icmpYes X hx (hb hby at_76) (c_feq hc3).2 (pc' := 92) (by decide) (by decide) ?_
    refine o_iload X hx (hb hby at_92) rfl (pc' := 94) rfl ?_
    refine o_iconst X hx (hb hby at_94) (2 : Int32) rfl (pc' := 95) rfl ?_
    by_cases hc31 : x7 = (2 : Int32)
    · rw [if_pos hc31] at hr
      refine o_icmpNo X hx (hb hby at_95) (c_teq hc31).2 (pc' := 98) rfl ?_
      refine o_iconst X hx (hb hby at_98) (2 : Int32) rfl (pc' := 99) rfl ?_
      refine o_newarr X hx hZ eT (hw _ (List.mem_of_getElem? (i := 1) rfl)) (hb hby at_99) (by decide) 2 (by decide) (by decide) (by decide) (by decide) (pc' := 101) rfl ?_
      intro T32 h32 a32 X32 e32 q32 E32 A32
      have g32 : n0 ≤ a32 := Nat.le_trans hsz (Nat.le_of_eq q32.symm)
      have z32 : n0 ≤ h32.size := Nat.le_trans hsz E32.1
      replace A32 : OAr Z h32 a32 .char 2 (ci (li [(0 : Int32), (0 : Int32)])) := OAr.zeros (k := 2) A32
      refine o_dup X32 hx (hb hby at_101) rfl (pc' := 102) rfl ?_
      refine o_iconst X32 hx (hb hby at_102) (0 : Int32) rfl (pc' := 103) rfl ?_
      refine o_iload X32 hx (hb hby at_103) rfl (pc' := 105) rfl ?_
      refine o_castore X32 hx hZ e32 A32 (hb hby at_105) (by decide) (by decide) (pc' := 106) rfl ?_
      intro T33 h33 X33 e33 W33
      have A33 : OAr Z h33 a32 .char 2 (ci (li [(nar .char x9), (0 : Int32)])) := OAr.setI (j := 0) (x := (nar .char x9)) W33 A32 (Nat.le_of_ble_eq_true rfl)
      have N33 := Fr.snoc X33 N g32
      have z33 : n0 ≤ h33.size := Nat.le_trans z32 (Keep.of_wr W33).1
      refine o_dup X33 hx (hb hby at_106) rfl (pc' := 107) rfl ?_
      refine o_iconst X33 hx (hb hby at_107) (1 : Int32) rfl (pc' := 108) rfl ?_
      refine o_iload X33 hx (hb hby at_108) rfl (pc' := 110) rfl ?_
      refine o_castore X33 hx hZ e33 A33 (hb hby at_110) (by decide) (by decide) (pc' := 111) rfl ?_
      intro T34 h34 X34 e34 W34
      have A34 : OAr Z h34 a32 .char 2 (ci (li [(nar .char x9), (nar .char x10)])) := OAr.setI (j := 1) (x := (nar .char x10)) W34 A33 (Nat.le_of_ble_eq_true rfl)
      have N34 := Fr.snoc X34 N33 g32
      have z34 : n0 ≤ h34.size := Nat.le_trans z33 (Keep.of_wr W34).1
      refine o_astore X34 hx (hb hby at_111) rfl #[.val (.int d0), .val (.int d1), .val (.int x2), .val (.long x3), .second, .val (.int x5), .val (.int d6), .val (.int x7), .val (.int d8), .val (.int x9), .val (.int x10), .val (.int x11), .val (.int x12), .val (.ref a32), .unset, .unset, .unset, .unset, .unset, .unset, .unset, .unset, .unset, .unset, .unset] rfl (pc' := 113) rfl ?_
      refine o_goto X34 hx (hb hby at_113) (pc' := 170) (by decide) (by decide) ?_
      exact b0_170a hx hZ hw hby hml hown hnm hret hlk a32 (li [(nar .char x9), (nar .char x10)]) d0 d1 x2 x3 x5 d6 x7 d8 x9 x10 x11 x12 r X34 e34 N34 z34 A34 g32 hr
    · rw [if_neg hc31] at hr
      refine o_icmpYes X hx (hb hby at_95) (c_feq hc31).2 (pc' := 116) (by decide) (by decide) ?_
      refine o_iload X hx (hb hby at_116) rfl (pc' := 118) rfl ?_
      refine o_iconst X hx (hb hby at_118) (3 : Int32) rfl (pc' := 119) rfl ?_
      by_cases hc60 : x7 = (3 : Int32)
      · rw [if_pos hc60] at hr
        refine o_icmpNo X hx (hb hby at_119) (c_teq hc60).2 (pc' := 122) rfl ?_
        refine o_iconst X hx (hb hby at_122) (3 : Int32) rfl (pc' := 123) rfl ?_
        refine o_newarr X hx hZ eT (hw _ (List.mem_of_getElem? (i := 1) rfl)) (hb hby at_123) (by decide) 3 (by decide) (by decide) (by decide) (by decide) (pc' := 125) rfl ?_
        intro T61 h61 a61 X61 e61 q61 E61 A61
        have g61 : n0 ≤ a61 := Nat.le_trans hsz (Nat.le_of_eq q61.symm)
        have z61 : n0 ≤ h61.size := Nat.le_trans hsz E61.1
        replace A61 : OAr Z h61 a61 .char 3 (ci (li [(0 : Int32), (0 : Int32), (0 : Int32)])) := OAr.zeros (k := 3) A61
        refine o_dup X61 hx (hb hby at_125) rfl (pc' := 126) rfl ?_
        refine o_iconst X61 hx (hb hby at_126) (0 : Int32) rfl (pc' := 127) rfl ?_
        refine o_iload X61 hx (hb hby at_127) rfl (pc' := 129) rfl ?_
        refine o_castore X61 hx hZ e61 A61 (hb hby at_129) (by decide) (by decide) (pc' := 130) rfl ?_
        intro T62 h62 X62 e62 W62
        have A62 : OAr Z h62 a61 .char 3 (ci (li [(nar .char x9), (0 : Int32), (0 : Int32)])) := OAr.setI (j := 0) (x := (nar .char x9)) W62 A61 (Nat.le_of_ble_eq_true rfl)
        have N62 := Fr.snoc X62 N g61
        have z62 : n0 ≤ h62.size := Nat.le_trans z61 (Keep.of_wr W62).1
        refine o_dup X62 hx (hb hby at_130) rfl (pc' := 131) rfl ?_
        refine o_iconst X62 hx (hb hby at_131) (1 : Int32) rfl (pc' := 132) rfl ?_
        refine o_iload X62 hx (hb hby at_132) rfl (pc' := 134) rfl ?_
        refine o_castore X62 hx hZ e62 A62 (hb hby at_134) (by decide) (by decide) (pc' := 135) rfl ?_
        intro T63 h63 X63 e63 W63
        have A63 : OAr Z h63 a61 .char 3 (ci (li [(nar .char x9), (nar .char x10), (0 : Int32)])) := OAr.setI (j := 1) (x := (nar .char x10)) W63 A62 (Nat.le_of_ble_eq_true rfl)
        have N63 := Fr.snoc X63 N62 g61
        have z63 : n0 ≤ h63.size := Nat.le_trans z62 (Keep.of_wr W63).1
        refine o_dup X63 hx (hb hby at_135) rfl (pc' := 136) rfl ?_
        refine o_iconst X63 hx (hb hby at_136) (2 : Int32) rfl (pc' := 137) rfl ?_
        refine o_iload X63 hx (hb hby at_137) rfl (pc' := 139) rfl ?_
        refine o_castore X63 hx hZ e63 A63 (hb hby at_139) (by decide) (by decide) (pc' := 140) rfl ?_
        intro T64 h64 X64 e64 W64
        have A64 : OAr Z h64 a61 .char 3 (ci (li [(nar .char x9), (nar .char x10), (nar .char x11)])) := OAr.setI (j := 2) (x := (nar .char x11)) W64 A63 (Nat.le_of_ble_eq_true rfl)
        have N64 := Fr.snoc X64 N63 g61
        have z64 : n0 ≤ h64.size := Nat.le_trans z63 (Keep.of_wr W64).1
        refine o_astore X64 hx (hb hby at_140) rfl #[.val (.int d0), .val (.int d1), .val (.int x2), .val (.long x3), .second, .val (.int x5), .val (.int d6), .val (.int x7), .val (.int d8), .val (.int x9), .val (.int x10), .val (.int x11), .val (.int x12), .val (.ref a61), .unset, .unset, .unset, .unset, .unset, .unset, .unset, .unset, .unset, .unset, .unset] rfl (pc' := 142) rfl ?_
        refine o_goto X64 hx (hb hby at_142) (pc' := 170) (by decide) (by decide) ?_
        exact b0_170b hx hZ hw hby hml hown hnm hret hlk a61 (li [(nar .char x9), (nar .char x10), (nar .char x11)]) d0 d1 x2 x3 x5 d6 x7 d8 x9 x10 x11 x12 r X64 e64 N64 z64 A64 g61 hr
      · rw [if_neg hc60] at hr
        refine o_icmpYes X hx (hb hby at_119) (c_feq hc60).2 (pc' := 145) (by decide) (by decide) ?_
        refine o_iconst X hx (hb hby at_145) (4 : Int32) rfl (pc' := 146) rfl ?_
        refine o_newarr X hx hZ eT (hw _ (List.mem_of_getElem? (i := 1) rfl)) (hb hby at_146) (by decide) 4 (by decide) (by decide) (by decide) (by decide) (pc' := 148) rfl ?_
        intro T90 h90 a90 X90 e90 q90 E90 A90
        have g90 : n0 ≤ a90 := Nat.le_trans hsz (Nat.le_of_eq q90.symm)
        have z90 : n0 ≤ h90.size := Nat.le_trans hsz E90.1
        replace A90 : OAr Z h90 a90 .char 4 (ci (li [(0 : Int32), (0 : Int32), (0 : Int32), (0 : Int32)])) := OAr.zeros (k := 4) A90
        refine o_dup X90 hx (hb hby at_148) rfl (pc' := 149) rfl ?_
        refine o_iconst X90 hx (hb hby at_149) (0 : Int32) rfl (pc' := 150) rfl ?_
        refine o_iload X90 hx (hb hby at_150) rfl (pc' := 152) rfl ?_
        refine o_castore X90 hx hZ e90 A90 (hb hby at_152) (by decide) (by decide) (pc' := 153) rfl ?_
        intro T91 h91 X91 e91 W91
        have A91 : OAr Z h91 a90 .char 4 (ci (li [(nar .char x9), (0 : Int32), (0 : Int32), (0 : Int32)])) := OAr.setI (j := 0) (x := (nar .char x9)) W91 A90 (Nat.le_of_ble_eq_true rfl)
        have N91 := Fr.snoc X91 N g90
        have z91 : n0 ≤ h91.size := Nat.le_trans z90 (Keep.of_wr W91).1
        refine o_dup X91 hx (hb hby at_153) rfl (pc' := 154) rfl ?_
        refine o_iconst X91 hx (hb hby at_154) (1 : Int32) rfl (pc' := 155) rfl ?_
        refine o_iload X91 hx (hb hby at_155) rfl (pc' := 157) rfl ?_
        refine o_castore X91 hx hZ e91 A91 (hb hby at_157) (by decide) (by decide) (pc' := 158) rfl ?_
        intro T92 h92 X92 e92 W92
        have A92 : OAr Z h92 a90 .char 4 (ci (li [(nar .char x9), (nar .char x10), (0 : Int32), (0 : Int32)])) := OAr.setI (j := 1) (x := (nar .char x10)) W92 A91 (Nat.le_of_ble_eq_true rfl)
        have N92 := Fr.snoc X92 N91 g90
        have z92 : n0 ≤ h92.size := Nat.le_trans z91 (Keep.of_wr W92).1
        refine o_dup X92 hx (hb hby at_158) rfl (pc' := 159) rfl ?_
        refine o_iconst X92 hx (hb hby at_159) (2 : Int32) rfl (pc' := 160) rfl ?_
        refine o_iload X92 hx (hb hby at_160) rfl (pc' := 162) rfl ?_
        refine o_castore X92 hx hZ e92 A92 (hb hby at_162) (by decide) (by decide) (pc' := 163) rfl ?_
        intro T93 h93 X93 e93 W93
        have A93 : OAr Z h93 a90 .char 4 (ci (li [(nar .char x9), (nar .char x10), (nar .char x11), (0 : Int32)])) := OAr.setI (j := 2) (x := (nar .char x11)) W93 A92 (Nat.le_of_ble_eq_true rfl)
        have N93 := Fr.snoc X93 N92 g90
        have z93 : n0 ≤ h93.size := Nat.le_trans z92 (Keep.of_wr W93).1
        refine o_dup X93 hx (hb hby at_163) rfl (pc' := 164) rfl ?_
        refine o_iconst X93 hx (hb hby at_164) (3 : Int32) rfl (pc' := 165) rfl ?_
        refine o_iload X93 hx (hb hby at_165) rfl (pc' := 167) rfl ?_
        refine o_castore X93 hx hZ e93 A93 (hb hby at_167) (by decide) (by decide) (pc' := 168) rfl ?_
        intro T94 h94 X94 e94 W94
        have A94 : OAr Z h94 a90 .char 4 (ci (li [(nar .char x9), (nar .char x10), (nar .char x11), (nar .char x12)])) := OAr.setI (j := 3) (x := (nar .char x12)) W94 A93 (Nat.le_of_ble_eq_true rfl)
        have N94 := Fr.snoc X94 N93 g90
        have z94 : n0 ≤ h94.size := Nat.le_trans z93 (Keep.of_wr W94).1
        refine o_astore X94 hx (hb hby at_168) rfl #[.val (.int d0), .val (.int d1), .val (.int x2), .val (.long x3), .second, .val (.int x5), .val (.int d6), .val (.int x7), .val (.int d8), .val (.int x9), .val (.int x10), .val (.int x11), .val (.int x12), .val (.ref a90), .unset, .unset, .unset, .unset, .unset, .unset, .unset, .unset, .unset, .unset, .unset] rfl (pc' := 170) rfl ?_
        exact b0_170c hx hZ hw hby hml hown hnm hret hlk a90 (li [(nar .char x9), (nar .char x10), (nar .char x11), (nar .char x12)]) d0 d1 x2 x3 x5 d6 x7 d8 x9 x10 x11 x12 r X94 e94 N94 z94 A94 g90 hr
def f0_56 (x1 : Int32) (x2 : Int32) (x3 : Int64) (x5 : Int32) (x7 : Int32) (x8 : Int32) (x9 : Int32) (x10 : Int32) : Option (Int32) := (f0_73 x2 x3 x5 x7 x9 x10 ((x1 &&& x8).toUInt32.toUInt16.toUInt32.toInt32) ((((x1.toUInt32 >>> ((16 : Int32) &&& 31).toUInt32).toInt32) &&& x8).toUInt32.toUInt16.toUInt32.toInt32))
set_option maxRecDepth 65536 in
set_option maxHeartbeats 40000000 in
theorem b0_56 {p : Program} {l : Launch} {e : Env} {s : State} {m : MethodId} {args : Array Value} {below : List Frame} {meth : Method} {c : Code} {Z : State} {a0 : Array Value} {n0 : Nat} (hx : p.tables.exec = Jvm.exec) (hZ : Z.Warmed39 s.vm) (hw : ∀ d ∈ tables_1, d.before a0 Z = true) (hby : c.code = code) (hml : c.maxLocals = 25) (hown : s.vm.findClass "com/example/once_match/oncematch/PrefixRegisterStateAtEndPinLaw" = some m.cls) (hnm : meth.name = "law") (hret : meth.sig.returnType = some .boolean) (hlk : meth.locks = false)  {T : State} {locs : List Loc} {h : Heap} (d0 : Int32) (x1 : Int32) (x2 : Int32) (x3 : Int64) (x5 : Int32) (d6 : Int32) (x7 : Int32) (x8 : Int32) (x9 : Int32) (x10 : Int32) (r : Int32) (X : Stand p l e room_1 s m args below meth c T locs 0 0) (eT : T.heap = h) (N : Fr n0 locs) (hsz : n0 ≤ h.size) (hr : f0_56 x1 x2 x3 x5 x7 x8 x9 x10 = some r) :
    OG p e below s (fun v h L => v = (some (.int r)) ∧ Fr n0 L) 16 128 T (mkF m 56 #[.val (.int d0), .val (.int x1), .val (.int x2), .val (.long x3), .second, .val (.int x5), .val (.int d6), .val (.int x7), .val (.int x8), .val (.int x9), .val (.int x10), .unset, .unset, .unset, .unset, .unset, .unset, .unset, .unset, .unset, .unset, .unset, .unset, .unset, .unset] []) := by
  have hr : (f0_73 x2 x3 x5 x7 x9 x10 ((x1 &&& x8).toUInt32.toUInt16.toUInt32.toInt32) ((((x1.toUInt32 >>> ((16 : Int32) &&& 31).toUInt32).toInt32) &&& x8).toUInt32.toUInt16.toUInt32.toInt32)) = some r := hr
  refine o_iload_n X hx (hb hby at_56) rfl (pc' := 57) rfl ?_
  refine o_iload X hx (hb hby at_57) rfl (pc' := 59) rfl ?_
  refine o_iand X hx (hb hby at_59) (pc' := 60) rfl ?_
  refine o_i2c X hx (hb hby at_60) (pc' := 61) rfl ?_
  refine o_istore X hx (hb hby at_61) #[.val (.int d0), .val (.int x1), .val (.int x2), .val (.long x3), .second, .val (.int x5), .val (.int d6), .val (.int x7), .val (.int x8), .val (.int x9), .val (.int x10), .val (.int ((x1 &&& x8).toUInt32.toUInt16.toUInt32.toInt32)), .unset, .unset, .unset, .unset, .unset, .unset, .unset, .unset, .unset, .unset, .unset, .unset, .unset] rfl (pc' := 63) rfl ?_
  refine o_iload_n X hx (hb hby at_63) rfl (pc' := 64) rfl ?_
  refine o_bipush X hx (hb hby at_64) (16 : Int32) rfl (pc' := 66) rfl ?_
  refine o_iushr X hx (hb hby at_66) (pc' := 67) rfl ?_
  refine o_iload X hx (hb hby at_67) rfl (pc' := 69) rfl ?_
  refine o_iand X hx (hb hby at_69) (pc' := 70) rfl ?_
  refine o_i2c X hx (hb hby at_70) (pc' := 71) rfl ?_
  refine o_istore X hx (hb hby at_71) #[.val (.int d0), .val (.int x1), .val (.int x2), .val (.long x3), .second, .val (.int x5), .val (.int d6), .val (.int x7), .val (.int x8), .val (.int x9), .val (.int x10), .val (.int ((x1 &&& x8).toUInt32.toUInt16.toUInt32.toInt32)), .val (.int ((((x1.toUInt32 >>> ((16 : Int32) &&& 31).toUInt32).toInt32) &&& x8).toUInt32.toUInt16.toUInt32.toInt32)), .unset, .unset, .unset, .unset, .unset, .unset, .unset, .unset, .unset, .unset, .unset, .unset] rfl (pc' := 73) rfl ?_
  exact b0_73 hx hZ hw hby hml hown hnm hret hlk d0 x1 x2 x3 x5 d6 x7 x8 x9 x10 ((x1 &&& x8).toUInt32.toUInt16.toUInt32.toInt32) ((((x1.toUInt32 >>> ((16 : Int32) &&& 31).toUInt32).toInt32) &&& x8).toUInt32.toUInt16.toUInt32.toInt32) r X eT N hsz hr
def f0_37 (x0 : Int32) (x1 : Int32) (x2 : Int32) (x3 : Int64) (x5 : Int32) (x7 : Int32) (t0 : Int32) : Option (Int32) := (f0_56 x1 x2 x3 x5 x7 t0 ((x0 &&& t0).toUInt32.toUInt16.toUInt32.toInt32) ((((x0.toUInt32 >>> ((16 : Int32) &&& 31).toUInt32).toInt32) &&& t0).toUInt32.toUInt16.toUInt32.toInt32))
set_option maxRecDepth 65536 in
set_option maxHeartbeats 40000000 in
theorem b0_37 {p : Program} {l : Launch} {e : Env} {s : State} {m : MethodId} {args : Array Value} {below : List Frame} {meth : Method} {c : Code} {Z : State} {a0 : Array Value} {n0 : Nat} (hx : p.tables.exec = Jvm.exec) (hZ : Z.Warmed39 s.vm) (hw : ∀ d ∈ tables_1, d.before a0 Z = true) (hby : c.code = code) (hml : c.maxLocals = 25) (hown : s.vm.findClass "com/example/once_match/oncematch/PrefixRegisterStateAtEndPinLaw" = some m.cls) (hnm : meth.name = "law") (hret : meth.sig.returnType = some .boolean) (hlk : meth.locks = false)  {T : State} {locs : List Loc} {h : Heap} (x0 : Int32) (x1 : Int32) (x2 : Int32) (x3 : Int64) (x5 : Int32) (d6 : Int32) (x7 : Int32) (t0 : Int32) (r : Int32) (X : Stand p l e room_1 s m args below meth c T locs 0 0) (eT : T.heap = h) (N : Fr n0 locs) (hsz : n0 ≤ h.size) (hr : f0_37 x0 x1 x2 x3 x5 x7 t0 = some r) :
    OG p e below s (fun v h L => v = (some (.int r)) ∧ Fr n0 L) 16 128 T (mkF m 37 #[.val (.int x0), .val (.int x1), .val (.int x2), .val (.long x3), .second, .val (.int x5), .val (.int d6), .val (.int x7), .unset, .unset, .unset, .unset, .unset, .unset, .unset, .unset, .unset, .unset, .unset, .unset, .unset, .unset, .unset, .unset, .unset] [(.int t0)]) := by
  have hr : (f0_56 x1 x2 x3 x5 x7 t0 ((x0 &&& t0).toUInt32.toUInt16.toUInt32.toInt32) ((((x0.toUInt32 >>> ((16 : Int32) &&& 31).toUInt32).toInt32) &&& t0).toUInt32.toUInt16.toUInt32.toInt32)) = some r := hr
  refine o_istore X hx (hb hby at_37) #[.val (.int x0), .val (.int x1), .val (.int x2), .val (.long x3), .second, .val (.int x5), .val (.int d6), .val (.int x7), .val (.int t0), .unset, .unset, .unset, .unset, .unset, .unset, .unset, .unset, .unset, .unset, .unset, .unset, .unset, .unset, .unset, .unset] rfl (pc' := 39) rfl ?_
  refine o_iload_n X hx (hb hby at_39) rfl (pc' := 40) rfl ?_
  refine o_iload X hx (hb hby at_40) rfl (pc' := 42) rfl ?_
  refine o_iand X hx (hb hby at_42) (pc' := 43) rfl ?_
  refine o_i2c X hx (hb hby at_43) (pc' := 44) rfl ?_
  refine o_istore X hx (hb hby at_44) #[.val (.int x0), .val (.int x1), .val (.int x2), .val (.long x3), .second, .val (.int x5), .val (.int d6), .val (.int x7), .val (.int t0), .val (.int ((x0 &&& t0).toUInt32.toUInt16.toUInt32.toInt32)), .unset, .unset, .unset, .unset, .unset, .unset, .unset, .unset, .unset, .unset, .unset, .unset, .unset, .unset, .unset] rfl (pc' := 46) rfl ?_
  refine o_iload_n X hx (hb hby at_46) rfl (pc' := 47) rfl ?_
  refine o_bipush X hx (hb hby at_47) (16 : Int32) rfl (pc' := 49) rfl ?_
  refine o_iushr X hx (hb hby at_49) (pc' := 50) rfl ?_
  refine o_iload X hx (hb hby at_50) rfl (pc' := 52) rfl ?_
  refine o_iand X hx (hb hby at_52) (pc' := 53) rfl ?_
  refine o_i2c X hx (hb hby at_53) (pc' := 54) rfl ?_
  refine o_istore X hx (hb hby at_54) #[.val (.int x0), .val (.int x1), .val (.int x2), .val (.long x3), .second, .val (.int x5), .val (.int d6), .val (.int x7), .val (.int t0), .val (.int ((x0 &&& t0).toUInt32.toUInt16.toUInt32.toInt32)), .val (.int ((((x0.toUInt32 >>> ((16 : Int32) &&& 31).toUInt32).toInt32) &&& t0).toUInt32.toUInt16.toUInt32.toInt32)), .unset, .unset, .unset, .unset, .unset, .unset, .unset, .unset, .unset, .unset, .unset, .unset, .unset, .unset] rfl (pc' := 56) rfl ?_
  exact b0_56 hx hZ hw hby hml hown hnm hret hlk x0 x1 x2 x3 x5 d6 x7 t0 ((x0 &&& t0).toUInt32.toUInt16.toUInt32.toInt32) ((((x0.toUInt32 >>> ((16 : Int32) &&& 31).toUInt32).toInt32) &&& t0).toUInt32.toUInt16.toUInt32.toInt32) r X eT N hsz hr
def f0_24 (x0 : Int32) (x1 : Int32) (x2 : Int32) (x3 : Int64) (x5 : Int32) (x6 : Int32) (x7 : Int32) : Option (Int32) := (if x6 = (0 : Int32) then (f0_37 x0 x1 x2 x3 x5 x7 (65535 : Int32)) else (f0_37 x0 x1 x2 x3 x5 x7 (255 : Int32)))
set_option maxRecDepth 65536 in
set_option maxHeartbeats 40000000 in
theorem b0_24 {p : Program} {l : Launch} {e : Env} {s : State} {m : MethodId} {args : Array Value} {below : List Frame} {meth : Method} {c : Code} {Z : State} {a0 : Array Value} {n0 : Nat} (hx : p.tables.exec = Jvm.exec) (hZ : Z.Warmed39 s.vm) (hw : ∀ d ∈ tables_1, d.before a0 Z = true) (hby : c.code = code) (hml : c.maxLocals = 25) (hown : s.vm.findClass "com/example/once_match/oncematch/PrefixRegisterStateAtEndPinLaw" = some m.cls) (hnm : meth.name = "law") (hret : meth.sig.returnType = some .boolean) (hlk : meth.locks = false)  {T : State} {locs : List Loc} {h : Heap} (x0 : Int32) (x1 : Int32) (x2 : Int32) (x3 : Int64) (x5 : Int32) (x6 : Int32) (x7 : Int32) (r : Int32) (X : Stand p l e room_1 s m args below meth c T locs 0 0) (eT : T.heap = h) (N : Fr n0 locs) (hsz : n0 ≤ h.size) (hr : f0_24 x0 x1 x2 x3 x5 x6 x7 = some r) :
    OG p e below s (fun v h L => v = (some (.int r)) ∧ Fr n0 L) 16 128 T (mkF m 24 #[.val (.int x0), .val (.int x1), .val (.int x2), .val (.long x3), .second, .val (.int x5), .val (.int x6), .val (.int x7), .unset, .unset, .unset, .unset, .unset, .unset, .unset, .unset, .unset, .unset, .unset, .unset, .unset, .unset, .unset, .unset, .unset] []) := by
  have hr : (if x6 = (0 : Int32) then (f0_37 x0 x1 x2 x3 x5 x7 (65535 : Int32)) else (f0_37 x0 x1 x2 x3 x5 x7 (255 : Int32))) = some r := hr
  refine o_iload X hx (hb hby at_24) rfl (pc' := 26) rfl ?_
  by_cases hc2 : x6 = (0 : Int32)
  · rw [if_pos hc2] at hr
    refine o_ifYes X hx (hb hby at_26) (z_teq hc2).1 (pc' := 35) (by decide) (by decide) ?_
    refine o_ldcInt X hx hZ hown (hb hby at_35) (hw _ (List.mem_of_getElem? (i := 0) rfl)) (pc' := 37) rfl ?_
    exact b0_37 hx hZ hw hby hml hown hnm hret hlk x0 x1 x2 x3 x5 x6 x7 (65535 : Int32) r X eT N hsz hr
  · rw [if_neg hc2] at hr
    refine o_ifNo X hx (hb hby at_26) (z_feq hc2).1 (pc' := 29) rfl ?_
    refine o_sipush X hx (hb hby at_29) (255 : Int32) rfl (pc' := 32) rfl ?_
    refine o_goto X hx (hb hby at_32) (pc' := 37) (by decide) (by decide) ?_
    exact b0_37 hx hZ hw hby hml hown hnm hret hlk x0 x1 x2 x3 x5 x6 x7 (255 : Int32) r X eT N hsz hr
def f0_12 (x0 : Int32) (x1 : Int32) (x2 : Int32) (x3 : Int64) (x5 : Int32) (t0 : Int32) : Option (Int32) := (f0_24 x0 x1 x2 x3 x5 t0 ((1 : Int32) + (((x5.toUInt32 >>> ((1 : Int32) &&& 31).toUInt32).toInt32) &&& (3 : Int32))))
set_option maxRecDepth 65536 in
set_option maxHeartbeats 40000000 in
theorem b0_12 {p : Program} {l : Launch} {e : Env} {s : State} {m : MethodId} {args : Array Value} {below : List Frame} {meth : Method} {c : Code} {Z : State} {a0 : Array Value} {n0 : Nat} (hx : p.tables.exec = Jvm.exec) (hZ : Z.Warmed39 s.vm) (hw : ∀ d ∈ tables_1, d.before a0 Z = true) (hby : c.code = code) (hml : c.maxLocals = 25) (hown : s.vm.findClass "com/example/once_match/oncematch/PrefixRegisterStateAtEndPinLaw" = some m.cls) (hnm : meth.name = "law") (hret : meth.sig.returnType = some .boolean) (hlk : meth.locks = false)  {T : State} {locs : List Loc} {h : Heap} (x0 : Int32) (x1 : Int32) (x2 : Int32) (x3 : Int64) (x5 : Int32) (t0 : Int32) (r : Int32) (X : Stand p l e room_1 s m args below meth c T locs 0 0) (eT : T.heap = h) (N : Fr n0 locs) (hsz : n0 ≤ h.size) (hr : f0_12 x0 x1 x2 x3 x5 t0 = some r) :
    OG p e below s (fun v h L => v = (some (.int r)) ∧ Fr n0 L) 16 128 T (mkF m 12 #[.val (.int x0), .val (.int x1), .val (.int x2), .val (.long x3), .second, .val (.int x5), .unset, .unset, .unset, .unset, .unset, .unset, .unset, .unset, .unset, .unset, .unset, .unset, .unset, .unset, .unset, .unset, .unset, .unset, .unset] [(.int t0)]) := by
  have hr : (f0_24 x0 x1 x2 x3 x5 t0 ((1 : Int32) + (((x5.toUInt32 >>> ((1 : Int32) &&& 31).toUInt32).toInt32) &&& (3 : Int32)))) = some r := hr
  refine o_istore X hx (hb hby at_12) #[.val (.int x0), .val (.int x1), .val (.int x2), .val (.long x3), .second, .val (.int x5), .val (.int t0), .unset, .unset, .unset, .unset, .unset, .unset, .unset, .unset, .unset, .unset, .unset, .unset, .unset, .unset, .unset, .unset, .unset, .unset] rfl (pc' := 14) rfl ?_
  refine o_iconst X hx (hb hby at_14) (1 : Int32) rfl (pc' := 15) rfl ?_
  refine o_iload X hx (hb hby at_15) rfl (pc' := 17) rfl ?_
  refine o_iconst X hx (hb hby at_17) (1 : Int32) rfl (pc' := 18) rfl ?_
  refine o_iushr X hx (hb hby at_18) (pc' := 19) rfl ?_
  refine o_iconst X hx (hb hby at_19) (3 : Int32) rfl (pc' := 20) rfl ?_
  refine o_iand X hx (hb hby at_20) (pc' := 21) rfl ?_
  refine o_iadd X hx (hb hby at_21) (pc' := 22) rfl ?_
  refine o_istore X hx (hb hby at_22) #[.val (.int x0), .val (.int x1), .val (.int x2), .val (.long x3), .second, .val (.int x5), .val (.int t0), .val (.int ((1 : Int32) + (((x5.toUInt32 >>> ((1 : Int32) &&& 31).toUInt32).toInt32) &&& (3 : Int32)))), .unset, .unset, .unset, .unset, .unset, .unset, .unset, .unset, .unset, .unset, .unset, .unset, .unset, .unset, .unset, .unset, .unset] rfl (pc' := 24) rfl ?_
  exact b0_24 hx hZ hw hby hml hown hnm hret hlk x0 x1 x2 x3 x5 t0 ((1 : Int32) + (((x5.toUInt32 >>> ((1 : Int32) &&& 31).toUInt32).toInt32) &&& (3 : Int32))) r X eT N hsz hr
def f0_0 (x0 : Int32) (x1 : Int32) (x2 : Int32) (x3 : Int64) (x5 : Int32) : Option (Int32) := (if (x5 &&& (1 : Int32)) = (0 : Int32) then (f0_12 x0 x1 x2 x3 x5 (0 : Int32)) else (f0_12 x0 x1 x2 x3 x5 (1 : Int32)))
set_option maxRecDepth 65536 in
set_option maxHeartbeats 40000000 in
theorem b0_0 {p : Program} {l : Launch} {e : Env} {s : State} {m : MethodId} {args : Array Value} {below : List Frame} {meth : Method} {c : Code} {Z : State} {a0 : Array Value} {n0 : Nat} (hx : p.tables.exec = Jvm.exec) (hZ : Z.Warmed39 s.vm) (hw : ∀ d ∈ tables_1, d.before a0 Z = true) (hby : c.code = code) (hml : c.maxLocals = 25) (hown : s.vm.findClass "com/example/once_match/oncematch/PrefixRegisterStateAtEndPinLaw" = some m.cls) (hnm : meth.name = "law") (hret : meth.sig.returnType = some .boolean) (hlk : meth.locks = false)  {T : State} {locs : List Loc} {h : Heap} (x0 : Int32) (x1 : Int32) (x2 : Int32) (x3 : Int64) (x5 : Int32) (r : Int32) (X : Stand p l e room_1 s m args below meth c T locs 0 0) (eT : T.heap = h) (N : Fr n0 locs) (hsz : n0 ≤ h.size) (hr : f0_0 x0 x1 x2 x3 x5 = some r) :
    OG p e below s (fun v h L => v = (some (.int r)) ∧ Fr n0 L) 16 128 T (mkF m 0 #[.val (.int x0), .val (.int x1), .val (.int x2), .val (.long x3), .second, .val (.int x5), .unset, .unset, .unset, .unset, .unset, .unset, .unset, .unset, .unset, .unset, .unset, .unset, .unset, .unset, .unset, .unset, .unset, .unset, .unset] []) := by
  have hr : (if (x5 &&& (1 : Int32)) = (0 : Int32) then (f0_12 x0 x1 x2 x3 x5 (0 : Int32)) else (f0_12 x0 x1 x2 x3 x5 (1 : Int32))) = some r := hr
  refine o_iload X hx (hb hby at_0) rfl (pc' := 2) rfl ?_
  refine o_iconst X hx (hb hby at_2) (1 : Int32) rfl (pc' := 3) rfl ?_
  refine o_iand X hx (hb hby at_3) (pc' := 4) rfl ?_
  by_cases hc1 : (x5 &&& (1 : Int32)) = (0 : Int32)
  · rw [if_pos hc1] at hr
    refine o_ifYes X hx (hb hby at_4) (z_teq hc1).1 (pc' := 11) (by decide) (by decide) ?_
    refine o_iconst X hx (hb hby at_11) (0 : Int32) rfl (pc' := 12) rfl ?_
    exact b0_12 hx hZ hw hby hml hown hnm hret hlk x0 x1 x2 x3 x5 (0 : Int32) r X eT N hsz hr
  · rw [if_neg hc1] at hr
    refine o_ifNo X hx (hb hby at_4) (z_feq hc1).1 (pc' := 7) rfl ?_
    refine o_iconst X hx (hb hby at_7) (1 : Int32) rfl (pc' := 8) rfl ?_
    refine o_goto X hx (hb hby at_8) (pc' := 12) (by decide) (by decide) ?_
    exact b0_12 hx hZ hw hby hml hown hnm hret hlk x0 x1 x2 x3 x5 (1 : Int32) r X eT N hsz hr
theorem own_nn2 {a b : Int} (ha : 0 ≤ a) (hb : 0 ≤ b) (h : a.toNat = b.toNat) : a = b := by omega
theorem own_ei (x y : Int32) : x = y ↔ x.toInt = y.toInt := by rw [Int32.toInt_inj]
theorem own_bvnat {x y : Int64} : x = y ↔ x.toBitVec.toNat = y.toBitVec.toNat := by
  rw [← Int64.toBitVec_inj, ← BitVec.toNat_inj]
theorem own_shlN (x s : Int64) (k : Nat) (hk : (s.toBitVec.smod 64#64).toNat = k) : (x <<< s).toBitVec.toNat = x.toBitVec.toNat * 2 ^ k % 2 ^ 64 := by
  have : (x <<< s).toBitVec = x.toBitVec <<< k := by
    rw [Int64.toBitVec_shiftLeft]
    show x.toBitVec <<< (s.toBitVec.smod 64#64) = _
    rw [BitVec.shiftLeft_eq', hk]
  rw [this, BitVec.toNat_shiftLeft, Nat.shiftLeft_eq]
theorem own_orN (x y : Int64) (k : Nat) (hx : x.toBitVec.toNat % 2 ^ k = 0) (hy : y.toBitVec.toNat < 2 ^ k) : (x ||| y).toBitVec.toNat = x.toBitVec.toNat + y.toBitVec.toNat := by
  rw [Int64.toBitVec_or, BitVec.toNat_or]
  have e : x.toBitVec.toNat = 2 ^ k * (x.toBitVec.toNat / 2 ^ k) := by
    have := Nat.div_add_mod x.toBitVec.toNat (2 ^ k); omega
  rw [e, ← Nat.two_pow_add_eq_or_of_lt hy]
theorem own_ushN (x : Int64) (j : UInt64) (k : Nat) (hk : j.toNat % 64 = k) : ((x.toUInt64 >>> j).toInt64).toBitVec.toNat = x.toBitVec.toNat / 2 ^ k := by
  show (x.toUInt64 >>> j).toNat = _
  rw [UInt64.toNat_shiftRight, hk, Nat.shiftRight_eq_div_pow]; rfl
theorem own_maskN (x m : Int64) (k : Nat) (hm : m.toBitVec.toNat = 2 ^ k - 1) : (x &&& m).toBitVec.toNat = x.toBitVec.toNat % 2 ^ k := by
  rw [Int64.toBitVec_and, BitVec.toNat_and, hm, Nat.and_two_pow_sub_one_eq_mod]
theorem own_i2lN (p : Int32) (h : 0 ≤ p.toInt) : p.toInt64.toBitVec.toNat = p.toInt.toNat := by
  have e2 : p.toInt64.toInt = p.toInt := by simp
  have e3 := p.toInt64.toBitVec.isLt
  have := p.toInt_lt
  rw [← Int64.toInt_toBitVec, BitVec.toInt_eq_toNat_cond] at e2
  split at e2 <;> omega
theorem own_andb (x m : Int32) (k : Nat) (hk : k ≤ 16) (hm : m.toBitVec.toNat = 2 ^ k - 1) : 0 ≤ (x &&& m).toInt ∧ (x &&& m).toInt < 2 ^ k := by
  have e : (x &&& m).toBitVec.toNat = x.toBitVec.toNat % 2 ^ k := by
    rw [Int32.toBitVec_and, BitVec.toNat_and, hm, Nat.and_two_pow_sub_one_eq_mod]
  have h1 : 2 ^ k ≤ 2 ^ 16 := Nat.pow_le_pow_right (by omega) hk
  have h2 := Nat.mod_lt x.toBitVec.toNat (Nat.pow_pos (n := k) (show 0 < 2 by omega))
  rw [← Int32.toInt_toBitVec, BitVec.toInt_eq_toNat_cond, if_pos (by omega), e]
  refine ⟨by omega, ?_⟩
  exact_mod_cast h2
theorem own_ch (x : Int32) : 0 ≤ (x.toUInt32.toUInt16.toUInt32.toInt32).toInt ∧ (x.toUInt32.toUInt16.toUInt32.toInt32).toInt < 65536 ∧ nar .char (x.toUInt32.toUInt16.toUInt32.toInt32) = x.toUInt32.toUInt16.toUInt32.toInt32 := by
  have hu := x.toUInt32.toUInt16.toNat_lt
  generalize x.toUInt32.toUInt16 = u at *
  have hm : (u.toUInt32.toInt32).toBitVec.toNat = u.toNat := by
    show (u.toUInt32).toNat = _
    simp
  have e : (u.toUInt32.toInt32).toInt = u.toNat := by
    rw [← Int32.toInt_toBitVec, BitVec.toInt_eq_toNat_cond, hm, if_pos (by omega)]
  refine ⟨by omega, by omega, ?_⟩
  show u.toUInt32.toInt32.toUInt32.toUInt16.toUInt32.toInt32 = _
  simp

theorem own_read8 (hi : Int64) (c2 c1 c0 : Int32) (h2 : 0 ≤ c2.toInt ∧ c2.toInt < 2 ^ 8) (h1 : 0 ≤ c1.toInt ∧ c1.toInt < 2 ^ 8) (h0 : 0 ≤ c0.toInt ∧ c0.toInt < 2 ^ 8) : ((((hi <<< (((3 : Int32) * (8 : Int32)) &&& 0x3f).toInt64) ||| ((c2.toInt64) <<< (((2 : Int32) * (8 : Int32)) &&& 0x3f).toInt64)) ||| ((c1.toInt64) <<< ((8 : Int32) &&& 0x3f).toInt64)) ||| (c0.toInt64)).toBitVec.toNat % 2 ^ 24 = c2.toInt.toNat * 2 ^ 16 + c1.toInt.toNat * 2 ^ 8 + c0.toInt.toNat := by
  have a3 := own_shlN hi (((3 : Int32) * (8 : Int32)) &&& 0x3f).toInt64 24 (by decide)
  have a2 := own_shlN c2.toInt64 (((2 : Int32) * (8 : Int32)) &&& 0x3f).toInt64 16 (by decide)
  have a1 := own_shlN c1.toInt64 ((8 : Int32) &&& 0x3f).toInt64 8 (by decide)
  rw [own_i2lN _ h2.1] at a2
  rw [own_i2lN _ h1.1] at a1
  have a0 := own_i2lN c0 h0.1
  generalize hi <<< (((3 : Int32) * (8 : Int32)) &&& 0x3f).toInt64 = w3 at *
  generalize (c2.toInt64) <<< (((2 : Int32) * (8 : Int32)) &&& 0x3f).toInt64 = w2 at *
  generalize (c1.toInt64) <<< ((8 : Int32) &&& 0x3f).toInt64 = w1 at *
  generalize c0.toInt64 = w0 at *
  have b2 := own_orN w3 w2 24 (by omega) (by omega)
  have b1 := own_orN (w3 ||| w2) w1 16 (by omega) (by omega)
  have b0 := own_orN ((w3 ||| w2) ||| w1) w0 8 (by omega) (by omega)
  omega
theorem own_read16 (hi : Int64) (c2 c1 c0 : Int32) (h2 : 0 ≤ c2.toInt ∧ c2.toInt < 2 ^ 16) (h1 : 0 ≤ c1.toInt ∧ c1.toInt < 2 ^ 16) (h0 : 0 ≤ c0.toInt ∧ c0.toInt < 2 ^ 16) : ((((hi <<< (((3 : Int32) * (16 : Int32)) &&& 0x3f).toInt64) ||| ((c2.toInt64) <<< (((2 : Int32) * (16 : Int32)) &&& 0x3f).toInt64)) ||| ((c1.toInt64) <<< ((16 : Int32) &&& 0x3f).toInt64)) ||| (c0.toInt64)).toBitVec.toNat % 2 ^ 48 = c2.toInt.toNat * 2 ^ 32 + c1.toInt.toNat * 2 ^ 16 + c0.toInt.toNat := by
  have a3 := own_shlN hi (((3 : Int32) * (16 : Int32)) &&& 0x3f).toInt64 48 (by decide)
  have a2 := own_shlN c2.toInt64 (((2 : Int32) * (16 : Int32)) &&& 0x3f).toInt64 32 (by decide)
  have a1 := own_shlN c1.toInt64 ((16 : Int32) &&& 0x3f).toInt64 16 (by decide)
  rw [own_i2lN _ h2.1] at a2
  rw [own_i2lN _ h1.1] at a1
  have a0 := own_i2lN c0 h0.1
  generalize hi <<< (((3 : Int32) * (16 : Int32)) &&& 0x3f).toInt64 = w3 at *
  generalize (c2.toInt64) <<< (((2 : Int32) * (16 : Int32)) &&& 0x3f).toInt64 = w2 at *
  generalize (c1.toInt64) <<< ((16 : Int32) &&& 0x3f).toInt64 = w1 at *
  generalize c0.toInt64 = w0 at *
  have b2 := own_orN w3 w2 48 (by omega) (by omega)
  have b1 := own_orN (w3 ||| w2) w1 32 (by omega) (by omega)
  have b0 := own_orN ((w3 ||| w2) ||| w1) w0 16 (by omega) (by omega)
  omega
theorem own_tv1_8 (p0 x : Int32) : f5_0 1 (li [p0]) 1 x = (if p0 = x then some 1 else some 0) := rfl
theorem own_fd1_8 (p0 x : Int32) (k : Nat) (h : ¬ p0 = x) : f2_97 (k + 1) 8 1 56 (li [p0]) 1 x = some (8, 1, 56, x, ((((0 : Int64) <<< ((8 : Int32) &&& 0x3f).toInt64) ||| (p0.toInt64)) <<< ((56 : Int32) &&& 0x3f).toInt64), (((p0 &&& (255 : Int32)).toInt64) * (72340172838076673 : Int64))) := by
  have e : f5_0 1 (li [p0]) 1 x = some 0 := by rw [own_tv1_8]; simp [h]
  show Option.bind (f5_0 1 (li [p0]) 1 x) _ = _
  rw [e]
  rfl
theorem own_nx1_8 (p0 x : Int32) (k : Nat) (h : p0 = x) : f2_97 (k + 1) 8 1 56 (li [p0]) 1 x = f2_97 k 8 1 56 (li [p0]) 1 (x + 1) := by
  have e : f5_0 1 (li [p0]) 1 x = some 1 := by
    rw [own_tv1_8]; repeat' split
    all_goals first | rfl | (exfalso; simp_all; done)
  show Option.bind (f5_0 1 (li [p0]) 1 x) _ = _
  rw [e]
  rfl
theorem own_fl1_8 (p0 : Int32) : ∃ fl, f2_97 6 8 1 56 (li [p0]) 1 0 = some (8, 1, 56, fl, ((((0 : Int64) <<< ((8 : Int32) &&& 0x3f).toInt64) ||| (p0.toInt64)) <<< ((56 : Int32) &&& 0x3f).toInt64), (((p0 &&& (255 : Int32)).toInt64) * (72340172838076673 : Int64))) := by
  by_cases h0 : p0 = 0
  case neg => exact ⟨0, own_fd1_8 p0 0 5 (by simpa only [not_or] using h0)⟩
  rw [own_nx1_8 p0 0 5 h0]
  rw [show (0 : Int32) + 1 = 1 from rfl]
  by_cases h1 : p0 = 1
  case neg => exact ⟨1, own_fd1_8 p0 1 4 (by simpa only [not_or] using h1)⟩
  rw [own_nx1_8 p0 1 4 h1]
  exfalso
  simp only [own_ei, show (0 : Int32).toInt = 0 from rfl, show (1 : Int32).toInt = 1 from rfl] at h0 h1
  omega
theorem own_st1_8 (p0 : Int32) (R : Int64) : f7_0 1 8 ((((0 : Int64) <<< ((8 : Int32) &&& 0x3f).toInt64) ||| (p0.toInt64)) <<< ((56 : Int32) &&& 0x3f).toInt64) 56 R = some 0 := rfl
theorem own_pn1_8 (p0 : Int32) (h0 : 0 ≤ p0.toInt ∧ p0.toInt < 2 ^ 8) : ((((0 : Int64) <<< ((8 : Int32) &&& 0x3f).toInt64) ||| (p0.toInt64)) <<< ((56 : Int32) &&& 0x3f).toInt64).toBitVec.toNat = (p0.toInt.toNat * 2 ^ 0) * 2 ^ 56 := by
  have z0 : (0 : Int64).toBitVec.toNat = 0 := rfl
  have s0 := own_shlN (0 : Int64) ((8 : Int32) &&& 0x3f).toInt64 8 (by decide)
  have i0 := own_i2lN p0 h0.1
  have o0 := own_orN ((0 : Int64) <<< ((8 : Int32) &&& 0x3f).toInt64) (p0.toInt64) 8 (by omega) (by omega)
  have se := own_shlN (((0 : Int64) <<< ((8 : Int32) &&& 0x3f).toInt64) ||| (p0.toInt64)) ((56 : Int32) &&& 0x3f).toInt64 56 (by decide)
  omega
theorem own_end1_8 (p0 x17 x18 x19 : Int32) (R : Int64) (h0 : 0 ≤ p0.toInt ∧ p0.toInt < 2 ^ 8) (k2 : 0 ≤ x19.toInt ∧ x19.toInt < 2 ^ 8) (k1 : 0 ≤ x18.toInt ∧ x18.toInt < 2 ^ 8) (k0 : 0 ≤ x17.toInt ∧ x17.toInt < 2 ^ 8) (hR : R.toBitVec.toNat % 2 ^ 24 = x19.toInt.toNat * 2 ^ 16 + x18.toInt.toNat * 2 ^ 8 + x17.toInt.toNat) (e : Int32) : Option.bind (f7_0 1 8 ((((0 : Int64) <<< ((8 : Int32) &&& 0x3f).toInt64) ||| (p0.toInt64)) <<< ((56 : Int32) &&& 0x3f).toInt64) 56 R) (fun v18 => (if v18 = e then (some (1 : Int32)) else (some (0 : Int32)))) = if 0 = e then some 1 else some 0 := by

  rw [own_st1_8]
  skip
  repeat' split
  all_goals simp_all [Option.bind]
theorem own_tv1_16 (p0 x : Int32) : f5_0 1 (li [p0]) 1 x = (if p0 = x then some 1 else some 0) := rfl
theorem own_fd1_16 (p0 x : Int32) (k : Nat) (h : ¬ p0 = x) : f2_97 (k + 1) 16 1 48 (li [p0]) 1 x = some (16, 1, 48, x, ((((0 : Int64) <<< ((16 : Int32) &&& 0x3f).toInt64) ||| (p0.toInt64)) <<< ((48 : Int32) &&& 0x3f).toInt64), (((p0 &&& (255 : Int32)).toInt64) * (72340172838076673 : Int64))) := by
  have e : f5_0 1 (li [p0]) 1 x = some 0 := by rw [own_tv1_16]; simp [h]
  show Option.bind (f5_0 1 (li [p0]) 1 x) _ = _
  rw [e]
  rfl
theorem own_nx1_16 (p0 x : Int32) (k : Nat) (h : p0 = x) : f2_97 (k + 1) 16 1 48 (li [p0]) 1 x = f2_97 k 16 1 48 (li [p0]) 1 (x + 1) := by
  have e : f5_0 1 (li [p0]) 1 x = some 1 := by
    rw [own_tv1_16]; repeat' split
    all_goals first | rfl | (exfalso; simp_all; done)
  show Option.bind (f5_0 1 (li [p0]) 1 x) _ = _
  rw [e]
  rfl
theorem own_fl1_16 (p0 : Int32) : ∃ fl, f2_97 6 16 1 48 (li [p0]) 1 0 = some (16, 1, 48, fl, ((((0 : Int64) <<< ((16 : Int32) &&& 0x3f).toInt64) ||| (p0.toInt64)) <<< ((48 : Int32) &&& 0x3f).toInt64), (((p0 &&& (255 : Int32)).toInt64) * (72340172838076673 : Int64))) := by
  by_cases h0 : p0 = 0
  case neg => exact ⟨0, own_fd1_16 p0 0 5 (by simpa only [not_or] using h0)⟩
  rw [own_nx1_16 p0 0 5 h0]
  rw [show (0 : Int32) + 1 = 1 from rfl]
  by_cases h1 : p0 = 1
  case neg => exact ⟨1, own_fd1_16 p0 1 4 (by simpa only [not_or] using h1)⟩
  rw [own_nx1_16 p0 1 4 h1]
  exfalso
  simp only [own_ei, show (0 : Int32).toInt = 0 from rfl, show (1 : Int32).toInt = 1 from rfl] at h0 h1
  omega
theorem own_st1_16 (p0 : Int32) (R : Int64) : f7_0 1 16 ((((0 : Int64) <<< ((16 : Int32) &&& 0x3f).toInt64) ||| (p0.toInt64)) <<< ((48 : Int32) &&& 0x3f).toInt64) 48 R = some 0 := rfl
theorem own_pn1_16 (p0 : Int32) (h0 : 0 ≤ p0.toInt ∧ p0.toInt < 2 ^ 16) : ((((0 : Int64) <<< ((16 : Int32) &&& 0x3f).toInt64) ||| (p0.toInt64)) <<< ((48 : Int32) &&& 0x3f).toInt64).toBitVec.toNat = (p0.toInt.toNat * 2 ^ 0) * 2 ^ 48 := by
  have z0 : (0 : Int64).toBitVec.toNat = 0 := rfl
  have s0 := own_shlN (0 : Int64) ((16 : Int32) &&& 0x3f).toInt64 16 (by decide)
  have i0 := own_i2lN p0 h0.1
  have o0 := own_orN ((0 : Int64) <<< ((16 : Int32) &&& 0x3f).toInt64) (p0.toInt64) 16 (by omega) (by omega)
  have se := own_shlN (((0 : Int64) <<< ((16 : Int32) &&& 0x3f).toInt64) ||| (p0.toInt64)) ((48 : Int32) &&& 0x3f).toInt64 48 (by decide)
  omega
theorem own_end1_16 (p0 x17 x18 x19 : Int32) (R : Int64) (h0 : 0 ≤ p0.toInt ∧ p0.toInt < 2 ^ 16) (k2 : 0 ≤ x19.toInt ∧ x19.toInt < 2 ^ 16) (k1 : 0 ≤ x18.toInt ∧ x18.toInt < 2 ^ 16) (k0 : 0 ≤ x17.toInt ∧ x17.toInt < 2 ^ 16) (hR : R.toBitVec.toNat % 2 ^ 48 = x19.toInt.toNat * 2 ^ 32 + x18.toInt.toNat * 2 ^ 16 + x17.toInt.toNat) (e : Int32) : Option.bind (f7_0 1 16 ((((0 : Int64) <<< ((16 : Int32) &&& 0x3f).toInt64) ||| (p0.toInt64)) <<< ((48 : Int32) &&& 0x3f).toInt64) 48 R) (fun v18 => (if v18 = e then (some (1 : Int32)) else (some (0 : Int32)))) = if 0 = e then some 1 else some 0 := by

  rw [own_st1_16]
  skip
  repeat' split
  all_goals simp_all [Option.bind]
theorem own_tv2_8 (p0 p1 x : Int32) : f5_0 2 (li [p0, p1]) 2 x = (if p0 = x then some 1 else (if p1 = x then some 1 else some 0)) := rfl
theorem own_fd2_8 (p0 p1 x : Int32) (k : Nat) (h : ¬ p0 = x ∧ ¬ p1 = x) : f2_97 (k + 1) 8 2 48 (li [p0, p1]) 2 x = some (8, 2, 48, x, ((((((0 : Int64) <<< ((8 : Int32) &&& 0x3f).toInt64) ||| (p0.toInt64)) <<< ((8 : Int32) &&& 0x3f).toInt64) ||| (p1.toInt64)) <<< ((48 : Int32) &&& 0x3f).toInt64), (((p1 &&& (255 : Int32)).toInt64) * (72340172838076673 : Int64))) := by
  have e : f5_0 2 (li [p0, p1]) 2 x = some 0 := by rw [own_tv2_8]; simp [h]
  show Option.bind (f5_0 2 (li [p0, p1]) 2 x) _ = _
  rw [e]
  rfl
theorem own_nx2_8 (p0 p1 x : Int32) (k : Nat) (h : p0 = x ∨ p1 = x) : f2_97 (k + 1) 8 2 48 (li [p0, p1]) 2 x = f2_97 k 8 2 48 (li [p0, p1]) 2 (x + 1) := by
  have e : f5_0 2 (li [p0, p1]) 2 x = some 1 := by
    rw [own_tv2_8]; repeat' split
    all_goals first | rfl | (exfalso; simp_all; done)
  show Option.bind (f5_0 2 (li [p0, p1]) 2 x) _ = _
  rw [e]
  rfl
theorem own_fl2_8 (p0 p1 : Int32) : ∃ fl, f2_97 6 8 2 48 (li [p0, p1]) 2 0 = some (8, 2, 48, fl, ((((((0 : Int64) <<< ((8 : Int32) &&& 0x3f).toInt64) ||| (p0.toInt64)) <<< ((8 : Int32) &&& 0x3f).toInt64) ||| (p1.toInt64)) <<< ((48 : Int32) &&& 0x3f).toInt64), (((p1 &&& (255 : Int32)).toInt64) * (72340172838076673 : Int64))) := by
  by_cases h0 : p0 = 0 ∨ p1 = 0
  case neg => exact ⟨0, own_fd2_8 p0 p1 0 5 (by simpa only [not_or] using h0)⟩
  rw [own_nx2_8 p0 p1 0 5 h0]
  rw [show (0 : Int32) + 1 = 1 from rfl]
  by_cases h1 : p0 = 1 ∨ p1 = 1
  case neg => exact ⟨1, own_fd2_8 p0 p1 1 4 (by simpa only [not_or] using h1)⟩
  rw [own_nx2_8 p0 p1 1 4 h1]
  rw [show (1 : Int32) + 1 = 2 from rfl]
  by_cases h2 : p0 = 2 ∨ p1 = 2
  case neg => exact ⟨2, own_fd2_8 p0 p1 2 3 (by simpa only [not_or] using h2)⟩
  rw [own_nx2_8 p0 p1 2 3 h2]
  exfalso
  simp only [own_ei, show (0 : Int32).toInt = 0 from rfl, show (1 : Int32).toInt = 1 from rfl, show (2 : Int32).toInt = 2 from rfl] at h0 h1 h2
  omega
theorem own_st2_8 (p0 p1 : Int32) (R : Int64) : f7_0 2 8 ((((((0 : Int64) <<< ((8 : Int32) &&& 0x3f).toInt64) ||| (p0.toInt64)) <<< ((8 : Int32) &&& 0x3f).toInt64) ||| (p1.toInt64)) <<< ((48 : Int32) &&& 0x3f).toInt64) 48 R = (if (R &&& (((1 : Int64) <<< (((8 : Int32) * 1) &&& 0x3f).toInt64) - (1 : Int64))) = ((((((((0 : Int64) <<< ((8 : Int32) &&& 0x3f).toInt64) ||| (p0.toInt64)) <<< ((8 : Int32) &&& 0x3f).toInt64) ||| (p1.toInt64)) <<< ((48 : Int32) &&& 0x3f).toInt64).toUInt64 >>> (((48 : Int32) + ((8 : Int32) * ((2 : Int32) - 1))) &&& 0x3f).toInt64.toUInt64).toInt64) then some 1 else some 0) := rfl
theorem own_pn2_8 (p0 p1 : Int32) (h0 : 0 ≤ p0.toInt ∧ p0.toInt < 2 ^ 8) (h1 : 0 ≤ p1.toInt ∧ p1.toInt < 2 ^ 8) : ((((((0 : Int64) <<< ((8 : Int32) &&& 0x3f).toInt64) ||| (p0.toInt64)) <<< ((8 : Int32) &&& 0x3f).toInt64) ||| (p1.toInt64)) <<< ((48 : Int32) &&& 0x3f).toInt64).toBitVec.toNat = (p0.toInt.toNat * 2 ^ 8 + p1.toInt.toNat * 2 ^ 0) * 2 ^ 48 := by
  have z0 : (0 : Int64).toBitVec.toNat = 0 := rfl
  have s0 := own_shlN (0 : Int64) ((8 : Int32) &&& 0x3f).toInt64 8 (by decide)
  have i0 := own_i2lN p0 h0.1
  have o0 := own_orN ((0 : Int64) <<< ((8 : Int32) &&& 0x3f).toInt64) (p0.toInt64) 8 (by omega) (by omega)
  have s1 := own_shlN (((0 : Int64) <<< ((8 : Int32) &&& 0x3f).toInt64) ||| (p0.toInt64)) ((8 : Int32) &&& 0x3f).toInt64 8 (by decide)
  have i1 := own_i2lN p1 h1.1
  have o1 := own_orN ((((0 : Int64) <<< ((8 : Int32) &&& 0x3f).toInt64) ||| (p0.toInt64)) <<< ((8 : Int32) &&& 0x3f).toInt64) (p1.toInt64) 8 (by omega) (by omega)
  have se := own_shlN (((((0 : Int64) <<< ((8 : Int32) &&& 0x3f).toInt64) ||| (p0.toInt64)) <<< ((8 : Int32) &&& 0x3f).toInt64) ||| (p1.toInt64)) ((48 : Int32) &&& 0x3f).toInt64 48 (by decide)
  omega
theorem own_q2_8_1 (p0 p1 : Int32) (R : Int64) (h0 : 0 ≤ p0.toInt ∧ p0.toInt < 2 ^ 8) (h1 : 0 ≤ p1.toInt ∧ p1.toInt < 2 ^ 8) : ((R &&& (((1 : Int64) <<< (((8 : Int32) * 1) &&& 0x3f).toInt64) - (1 : Int64))) = ((((((((0 : Int64) <<< ((8 : Int32) &&& 0x3f).toInt64) ||| (p0.toInt64)) <<< ((8 : Int32) &&& 0x3f).toInt64) ||| (p1.toInt64)) <<< ((48 : Int32) &&& 0x3f).toInt64).toUInt64 >>> (((48 : Int32) + ((8 : Int32) * ((2 : Int32) - 1))) &&& 0x3f).toInt64.toUInt64).toInt64)) ↔ R.toBitVec.toNat % 2 ^ 8 = p0.toInt.toNat * 2 ^ 0 := by
  have a := own_pn2_8 p0 p1 h0 h1
  rw [own_bvnat, own_maskN R _ 8 (by decide), own_ushN _ _ 56 (by decide), a]
  constructor <;> intro q <;> omega
theorem own_end2_8 (p0 p1 x17 x18 x19 : Int32) (R : Int64) (h0 : 0 ≤ p0.toInt ∧ p0.toInt < 2 ^ 8) (h1 : 0 ≤ p1.toInt ∧ p1.toInt < 2 ^ 8) (k2 : 0 ≤ x19.toInt ∧ x19.toInt < 2 ^ 8) (k1 : 0 ≤ x18.toInt ∧ x18.toInt < 2 ^ 8) (k0 : 0 ≤ x17.toInt ∧ x17.toInt < 2 ^ 8) (hR : R.toBitVec.toNat % 2 ^ 24 = x19.toInt.toNat * 2 ^ 16 + x18.toInt.toNat * 2 ^ 8 + x17.toInt.toNat) (e : Int32) : Option.bind (f7_0 2 8 ((((((0 : Int64) <<< ((8 : Int32) &&& 0x3f).toInt64) ||| (p0.toInt64)) <<< ((8 : Int32) &&& 0x3f).toInt64) ||| (p1.toInt64)) <<< ((48 : Int32) &&& 0x3f).toInt64) 48 R) (fun v18 => (if v18 = e then (some (1 : Int32)) else (some (0 : Int32)))) = if (if x17 = p0 then 1 else 0) = e then some 1 else some 0 := by
  have r1 : R.toBitVec.toNat % 2 ^ 8 = x17.toInt.toNat * 2 ^ 0 := by omega
  have q1 : (R.toBitVec.toNat % 2 ^ 8 = p0.toInt.toNat * 2 ^ 0) ↔ (x17 = p0) := by
    clear  hR 
    rw [r1]; simp only [own_ei]
    constructor
    · intro q
      have e0 : x17.toInt.toNat = p0.toInt.toNat := by omega
      exact own_nn2 k0.1 h0.1 e0
    · intro e0; rw [e0]

  rw [own_st2_8]
  simp only [own_q2_8_1 p0 p1 R h0 h1, q1]
  repeat' split
  all_goals simp_all [Option.bind]
theorem own_tv2_16 (p0 p1 x : Int32) : f5_0 2 (li [p0, p1]) 2 x = (if p0 = x then some 1 else (if p1 = x then some 1 else some 0)) := rfl
theorem own_fd2_16 (p0 p1 x : Int32) (k : Nat) (h : ¬ p0 = x ∧ ¬ p1 = x) : f2_97 (k + 1) 16 2 32 (li [p0, p1]) 2 x = some (16, 2, 32, x, ((((((0 : Int64) <<< ((16 : Int32) &&& 0x3f).toInt64) ||| (p0.toInt64)) <<< ((16 : Int32) &&& 0x3f).toInt64) ||| (p1.toInt64)) <<< ((32 : Int32) &&& 0x3f).toInt64), (((p1 &&& (255 : Int32)).toInt64) * (72340172838076673 : Int64))) := by
  have e : f5_0 2 (li [p0, p1]) 2 x = some 0 := by rw [own_tv2_16]; simp [h]
  show Option.bind (f5_0 2 (li [p0, p1]) 2 x) _ = _
  rw [e]
  rfl
theorem own_nx2_16 (p0 p1 x : Int32) (k : Nat) (h : p0 = x ∨ p1 = x) : f2_97 (k + 1) 16 2 32 (li [p0, p1]) 2 x = f2_97 k 16 2 32 (li [p0, p1]) 2 (x + 1) := by
  have e : f5_0 2 (li [p0, p1]) 2 x = some 1 := by
    rw [own_tv2_16]; repeat' split
    all_goals first | rfl | (exfalso; simp_all; done)
  show Option.bind (f5_0 2 (li [p0, p1]) 2 x) _ = _
  rw [e]
  rfl
theorem own_fl2_16 (p0 p1 : Int32) : ∃ fl, f2_97 6 16 2 32 (li [p0, p1]) 2 0 = some (16, 2, 32, fl, ((((((0 : Int64) <<< ((16 : Int32) &&& 0x3f).toInt64) ||| (p0.toInt64)) <<< ((16 : Int32) &&& 0x3f).toInt64) ||| (p1.toInt64)) <<< ((32 : Int32) &&& 0x3f).toInt64), (((p1 &&& (255 : Int32)).toInt64) * (72340172838076673 : Int64))) := by
  by_cases h0 : p0 = 0 ∨ p1 = 0
  case neg => exact ⟨0, own_fd2_16 p0 p1 0 5 (by simpa only [not_or] using h0)⟩
  rw [own_nx2_16 p0 p1 0 5 h0]
  rw [show (0 : Int32) + 1 = 1 from rfl]
  by_cases h1 : p0 = 1 ∨ p1 = 1
  case neg => exact ⟨1, own_fd2_16 p0 p1 1 4 (by simpa only [not_or] using h1)⟩
  rw [own_nx2_16 p0 p1 1 4 h1]
  rw [show (1 : Int32) + 1 = 2 from rfl]
  by_cases h2 : p0 = 2 ∨ p1 = 2
  case neg => exact ⟨2, own_fd2_16 p0 p1 2 3 (by simpa only [not_or] using h2)⟩
  rw [own_nx2_16 p0 p1 2 3 h2]
  exfalso
  simp only [own_ei, show (0 : Int32).toInt = 0 from rfl, show (1 : Int32).toInt = 1 from rfl, show (2 : Int32).toInt = 2 from rfl] at h0 h1 h2
  omega
theorem own_st2_16 (p0 p1 : Int32) (R : Int64) : f7_0 2 16 ((((((0 : Int64) <<< ((16 : Int32) &&& 0x3f).toInt64) ||| (p0.toInt64)) <<< ((16 : Int32) &&& 0x3f).toInt64) ||| (p1.toInt64)) <<< ((32 : Int32) &&& 0x3f).toInt64) 32 R = (if (R &&& (((1 : Int64) <<< (((16 : Int32) * 1) &&& 0x3f).toInt64) - (1 : Int64))) = ((((((((0 : Int64) <<< ((16 : Int32) &&& 0x3f).toInt64) ||| (p0.toInt64)) <<< ((16 : Int32) &&& 0x3f).toInt64) ||| (p1.toInt64)) <<< ((32 : Int32) &&& 0x3f).toInt64).toUInt64 >>> (((32 : Int32) + ((16 : Int32) * ((2 : Int32) - 1))) &&& 0x3f).toInt64.toUInt64).toInt64) then some 1 else some 0) := rfl
theorem own_pn2_16 (p0 p1 : Int32) (h0 : 0 ≤ p0.toInt ∧ p0.toInt < 2 ^ 16) (h1 : 0 ≤ p1.toInt ∧ p1.toInt < 2 ^ 16) : ((((((0 : Int64) <<< ((16 : Int32) &&& 0x3f).toInt64) ||| (p0.toInt64)) <<< ((16 : Int32) &&& 0x3f).toInt64) ||| (p1.toInt64)) <<< ((32 : Int32) &&& 0x3f).toInt64).toBitVec.toNat = (p0.toInt.toNat * 2 ^ 16 + p1.toInt.toNat * 2 ^ 0) * 2 ^ 32 := by
  have z0 : (0 : Int64).toBitVec.toNat = 0 := rfl
  have s0 := own_shlN (0 : Int64) ((16 : Int32) &&& 0x3f).toInt64 16 (by decide)
  have i0 := own_i2lN p0 h0.1
  have o0 := own_orN ((0 : Int64) <<< ((16 : Int32) &&& 0x3f).toInt64) (p0.toInt64) 16 (by omega) (by omega)
  have s1 := own_shlN (((0 : Int64) <<< ((16 : Int32) &&& 0x3f).toInt64) ||| (p0.toInt64)) ((16 : Int32) &&& 0x3f).toInt64 16 (by decide)
  have i1 := own_i2lN p1 h1.1
  have o1 := own_orN ((((0 : Int64) <<< ((16 : Int32) &&& 0x3f).toInt64) ||| (p0.toInt64)) <<< ((16 : Int32) &&& 0x3f).toInt64) (p1.toInt64) 16 (by omega) (by omega)
  have se := own_shlN (((((0 : Int64) <<< ((16 : Int32) &&& 0x3f).toInt64) ||| (p0.toInt64)) <<< ((16 : Int32) &&& 0x3f).toInt64) ||| (p1.toInt64)) ((32 : Int32) &&& 0x3f).toInt64 32 (by decide)
  omega
theorem own_q2_16_1 (p0 p1 : Int32) (R : Int64) (h0 : 0 ≤ p0.toInt ∧ p0.toInt < 2 ^ 16) (h1 : 0 ≤ p1.toInt ∧ p1.toInt < 2 ^ 16) : ((R &&& (((1 : Int64) <<< (((16 : Int32) * 1) &&& 0x3f).toInt64) - (1 : Int64))) = ((((((((0 : Int64) <<< ((16 : Int32) &&& 0x3f).toInt64) ||| (p0.toInt64)) <<< ((16 : Int32) &&& 0x3f).toInt64) ||| (p1.toInt64)) <<< ((32 : Int32) &&& 0x3f).toInt64).toUInt64 >>> (((32 : Int32) + ((16 : Int32) * ((2 : Int32) - 1))) &&& 0x3f).toInt64.toUInt64).toInt64)) ↔ R.toBitVec.toNat % 2 ^ 16 = p0.toInt.toNat * 2 ^ 0 := by
  have a := own_pn2_16 p0 p1 h0 h1
  rw [own_bvnat, own_maskN R _ 16 (by decide), own_ushN _ _ 48 (by decide), a]
  constructor <;> intro q <;> omega
theorem own_end2_16 (p0 p1 x17 x18 x19 : Int32) (R : Int64) (h0 : 0 ≤ p0.toInt ∧ p0.toInt < 2 ^ 16) (h1 : 0 ≤ p1.toInt ∧ p1.toInt < 2 ^ 16) (k2 : 0 ≤ x19.toInt ∧ x19.toInt < 2 ^ 16) (k1 : 0 ≤ x18.toInt ∧ x18.toInt < 2 ^ 16) (k0 : 0 ≤ x17.toInt ∧ x17.toInt < 2 ^ 16) (hR : R.toBitVec.toNat % 2 ^ 48 = x19.toInt.toNat * 2 ^ 32 + x18.toInt.toNat * 2 ^ 16 + x17.toInt.toNat) (e : Int32) : Option.bind (f7_0 2 16 ((((((0 : Int64) <<< ((16 : Int32) &&& 0x3f).toInt64) ||| (p0.toInt64)) <<< ((16 : Int32) &&& 0x3f).toInt64) ||| (p1.toInt64)) <<< ((32 : Int32) &&& 0x3f).toInt64) 32 R) (fun v18 => (if v18 = e then (some (1 : Int32)) else (some (0 : Int32)))) = if (if x17 = p0 then 1 else 0) = e then some 1 else some 0 := by
  have r1 : R.toBitVec.toNat % 2 ^ 16 = x17.toInt.toNat * 2 ^ 0 := by omega
  have q1 : (R.toBitVec.toNat % 2 ^ 16 = p0.toInt.toNat * 2 ^ 0) ↔ (x17 = p0) := by
    clear  hR 
    rw [r1]; simp only [own_ei]
    constructor
    · intro q
      have e0 : x17.toInt.toNat = p0.toInt.toNat := by omega
      exact own_nn2 k0.1 h0.1 e0
    · intro e0; rw [e0]

  rw [own_st2_16]
  simp only [own_q2_16_1 p0 p1 R h0 h1, q1]
  repeat' split
  all_goals simp_all [Option.bind]
theorem own_tv3_8 (p0 p1 p2 x : Int32) : f5_0 3 (li [p0, p1, p2]) 3 x = (if p0 = x then some 1 else (if p1 = x then some 1 else (if p2 = x then some 1 else some 0))) := rfl
theorem own_fd3_8 (p0 p1 p2 x : Int32) (k : Nat) (h : ¬ p0 = x ∧ ¬ p1 = x ∧ ¬ p2 = x) : f2_97 (k + 1) 8 3 40 (li [p0, p1, p2]) 3 x = some (8, 3, 40, x, ((((((((0 : Int64) <<< ((8 : Int32) &&& 0x3f).toInt64) ||| (p0.toInt64)) <<< ((8 : Int32) &&& 0x3f).toInt64) ||| (p1.toInt64)) <<< ((8 : Int32) &&& 0x3f).toInt64) ||| (p2.toInt64)) <<< ((40 : Int32) &&& 0x3f).toInt64), (((p2 &&& (255 : Int32)).toInt64) * (72340172838076673 : Int64))) := by
  have e : f5_0 3 (li [p0, p1, p2]) 3 x = some 0 := by rw [own_tv3_8]; simp [h]
  show Option.bind (f5_0 3 (li [p0, p1, p2]) 3 x) _ = _
  rw [e]
  rfl
theorem own_nx3_8 (p0 p1 p2 x : Int32) (k : Nat) (h : p0 = x ∨ p1 = x ∨ p2 = x) : f2_97 (k + 1) 8 3 40 (li [p0, p1, p2]) 3 x = f2_97 k 8 3 40 (li [p0, p1, p2]) 3 (x + 1) := by
  have e : f5_0 3 (li [p0, p1, p2]) 3 x = some 1 := by
    rw [own_tv3_8]; repeat' split
    all_goals first | rfl | (exfalso; simp_all; done)
  show Option.bind (f5_0 3 (li [p0, p1, p2]) 3 x) _ = _
  rw [e]
  rfl
theorem own_fl3_8 (p0 p1 p2 : Int32) : ∃ fl, f2_97 6 8 3 40 (li [p0, p1, p2]) 3 0 = some (8, 3, 40, fl, ((((((((0 : Int64) <<< ((8 : Int32) &&& 0x3f).toInt64) ||| (p0.toInt64)) <<< ((8 : Int32) &&& 0x3f).toInt64) ||| (p1.toInt64)) <<< ((8 : Int32) &&& 0x3f).toInt64) ||| (p2.toInt64)) <<< ((40 : Int32) &&& 0x3f).toInt64), (((p2 &&& (255 : Int32)).toInt64) * (72340172838076673 : Int64))) := by
  by_cases h0 : p0 = 0 ∨ p1 = 0 ∨ p2 = 0
  case neg => exact ⟨0, own_fd3_8 p0 p1 p2 0 5 (by simpa only [not_or] using h0)⟩
  rw [own_nx3_8 p0 p1 p2 0 5 h0]
  rw [show (0 : Int32) + 1 = 1 from rfl]
  by_cases h1 : p0 = 1 ∨ p1 = 1 ∨ p2 = 1
  case neg => exact ⟨1, own_fd3_8 p0 p1 p2 1 4 (by simpa only [not_or] using h1)⟩
  rw [own_nx3_8 p0 p1 p2 1 4 h1]
  rw [show (1 : Int32) + 1 = 2 from rfl]
  by_cases h2 : p0 = 2 ∨ p1 = 2 ∨ p2 = 2
  case neg => exact ⟨2, own_fd3_8 p0 p1 p2 2 3 (by simpa only [not_or] using h2)⟩
  rw [own_nx3_8 p0 p1 p2 2 3 h2]
  rw [show (2 : Int32) + 1 = 3 from rfl]
  by_cases h3 : p0 = 3 ∨ p1 = 3 ∨ p2 = 3
  case neg => exact ⟨3, own_fd3_8 p0 p1 p2 3 2 (by simpa only [not_or] using h3)⟩
  rw [own_nx3_8 p0 p1 p2 3 2 h3]
  exfalso
  simp only [own_ei, show (0 : Int32).toInt = 0 from rfl, show (1 : Int32).toInt = 1 from rfl, show (2 : Int32).toInt = 2 from rfl, show (3 : Int32).toInt = 3 from rfl] at h0 h1 h2 h3
  omega
theorem own_st3_8 (p0 p1 p2 : Int32) (R : Int64) : f7_0 3 8 ((((((((0 : Int64) <<< ((8 : Int32) &&& 0x3f).toInt64) ||| (p0.toInt64)) <<< ((8 : Int32) &&& 0x3f).toInt64) ||| (p1.toInt64)) <<< ((8 : Int32) &&& 0x3f).toInt64) ||| (p2.toInt64)) <<< ((40 : Int32) &&& 0x3f).toInt64) 40 R = (if (R &&& (((1 : Int64) <<< (((8 : Int32) * 2) &&& 0x3f).toInt64) - (1 : Int64))) = ((((((((((0 : Int64) <<< ((8 : Int32) &&& 0x3f).toInt64) ||| (p0.toInt64)) <<< ((8 : Int32) &&& 0x3f).toInt64) ||| (p1.toInt64)) <<< ((8 : Int32) &&& 0x3f).toInt64) ||| (p2.toInt64)) <<< ((40 : Int32) &&& 0x3f).toInt64).toUInt64 >>> (((40 : Int32) + ((8 : Int32) * ((3 : Int32) - 2))) &&& 0x3f).toInt64.toUInt64).toInt64) then some 2 else (if (R &&& (((1 : Int64) <<< (((8 : Int32) * 1) &&& 0x3f).toInt64) - (1 : Int64))) = ((((((((((0 : Int64) <<< ((8 : Int32) &&& 0x3f).toInt64) ||| (p0.toInt64)) <<< ((8 : Int32) &&& 0x3f).toInt64) ||| (p1.toInt64)) <<< ((8 : Int32) &&& 0x3f).toInt64) ||| (p2.toInt64)) <<< ((40 : Int32) &&& 0x3f).toInt64).toUInt64 >>> (((40 : Int32) + ((8 : Int32) * ((3 : Int32) - 1))) &&& 0x3f).toInt64.toUInt64).toInt64) then some 1 else some 0)) := rfl
theorem own_pn3_8 (p0 p1 p2 : Int32) (h0 : 0 ≤ p0.toInt ∧ p0.toInt < 2 ^ 8) (h1 : 0 ≤ p1.toInt ∧ p1.toInt < 2 ^ 8) (h2 : 0 ≤ p2.toInt ∧ p2.toInt < 2 ^ 8) : ((((((((0 : Int64) <<< ((8 : Int32) &&& 0x3f).toInt64) ||| (p0.toInt64)) <<< ((8 : Int32) &&& 0x3f).toInt64) ||| (p1.toInt64)) <<< ((8 : Int32) &&& 0x3f).toInt64) ||| (p2.toInt64)) <<< ((40 : Int32) &&& 0x3f).toInt64).toBitVec.toNat = (p0.toInt.toNat * 2 ^ 16 + p1.toInt.toNat * 2 ^ 8 + p2.toInt.toNat * 2 ^ 0) * 2 ^ 40 := by
  have z0 : (0 : Int64).toBitVec.toNat = 0 := rfl
  have s0 := own_shlN (0 : Int64) ((8 : Int32) &&& 0x3f).toInt64 8 (by decide)
  have i0 := own_i2lN p0 h0.1
  have o0 := own_orN ((0 : Int64) <<< ((8 : Int32) &&& 0x3f).toInt64) (p0.toInt64) 8 (by omega) (by omega)
  have s1 := own_shlN (((0 : Int64) <<< ((8 : Int32) &&& 0x3f).toInt64) ||| (p0.toInt64)) ((8 : Int32) &&& 0x3f).toInt64 8 (by decide)
  have i1 := own_i2lN p1 h1.1
  have o1 := own_orN ((((0 : Int64) <<< ((8 : Int32) &&& 0x3f).toInt64) ||| (p0.toInt64)) <<< ((8 : Int32) &&& 0x3f).toInt64) (p1.toInt64) 8 (by omega) (by omega)
  have s2 := own_shlN (((((0 : Int64) <<< ((8 : Int32) &&& 0x3f).toInt64) ||| (p0.toInt64)) <<< ((8 : Int32) &&& 0x3f).toInt64) ||| (p1.toInt64)) ((8 : Int32) &&& 0x3f).toInt64 8 (by decide)
  have i2 := own_i2lN p2 h2.1
  have o2 := own_orN ((((((0 : Int64) <<< ((8 : Int32) &&& 0x3f).toInt64) ||| (p0.toInt64)) <<< ((8 : Int32) &&& 0x3f).toInt64) ||| (p1.toInt64)) <<< ((8 : Int32) &&& 0x3f).toInt64) (p2.toInt64) 8 (by omega) (by omega)
  have se := own_shlN (((((((0 : Int64) <<< ((8 : Int32) &&& 0x3f).toInt64) ||| (p0.toInt64)) <<< ((8 : Int32) &&& 0x3f).toInt64) ||| (p1.toInt64)) <<< ((8 : Int32) &&& 0x3f).toInt64) ||| (p2.toInt64)) ((40 : Int32) &&& 0x3f).toInt64 40 (by decide)
  omega
theorem own_q3_8_1 (p0 p1 p2 : Int32) (R : Int64) (h0 : 0 ≤ p0.toInt ∧ p0.toInt < 2 ^ 8) (h1 : 0 ≤ p1.toInt ∧ p1.toInt < 2 ^ 8) (h2 : 0 ≤ p2.toInt ∧ p2.toInt < 2 ^ 8) : ((R &&& (((1 : Int64) <<< (((8 : Int32) * 1) &&& 0x3f).toInt64) - (1 : Int64))) = ((((((((((0 : Int64) <<< ((8 : Int32) &&& 0x3f).toInt64) ||| (p0.toInt64)) <<< ((8 : Int32) &&& 0x3f).toInt64) ||| (p1.toInt64)) <<< ((8 : Int32) &&& 0x3f).toInt64) ||| (p2.toInt64)) <<< ((40 : Int32) &&& 0x3f).toInt64).toUInt64 >>> (((40 : Int32) + ((8 : Int32) * ((3 : Int32) - 1))) &&& 0x3f).toInt64.toUInt64).toInt64)) ↔ R.toBitVec.toNat % 2 ^ 8 = p0.toInt.toNat * 2 ^ 0 := by
  have a := own_pn3_8 p0 p1 p2 h0 h1 h2
  rw [own_bvnat, own_maskN R _ 8 (by decide), own_ushN _ _ 56 (by decide), a]
  constructor <;> intro q <;> omega
theorem own_q3_8_2 (p0 p1 p2 : Int32) (R : Int64) (h0 : 0 ≤ p0.toInt ∧ p0.toInt < 2 ^ 8) (h1 : 0 ≤ p1.toInt ∧ p1.toInt < 2 ^ 8) (h2 : 0 ≤ p2.toInt ∧ p2.toInt < 2 ^ 8) : ((R &&& (((1 : Int64) <<< (((8 : Int32) * 2) &&& 0x3f).toInt64) - (1 : Int64))) = ((((((((((0 : Int64) <<< ((8 : Int32) &&& 0x3f).toInt64) ||| (p0.toInt64)) <<< ((8 : Int32) &&& 0x3f).toInt64) ||| (p1.toInt64)) <<< ((8 : Int32) &&& 0x3f).toInt64) ||| (p2.toInt64)) <<< ((40 : Int32) &&& 0x3f).toInt64).toUInt64 >>> (((40 : Int32) + ((8 : Int32) * ((3 : Int32) - 2))) &&& 0x3f).toInt64.toUInt64).toInt64)) ↔ R.toBitVec.toNat % 2 ^ 16 = p0.toInt.toNat * 2 ^ 8 + p1.toInt.toNat * 2 ^ 0 := by
  have a := own_pn3_8 p0 p1 p2 h0 h1 h2
  rw [own_bvnat, own_maskN R _ 16 (by decide), own_ushN _ _ 48 (by decide), a]
  constructor <;> intro q <;> omega
theorem own_end3_8 (p0 p1 p2 x17 x18 x19 : Int32) (R : Int64) (h0 : 0 ≤ p0.toInt ∧ p0.toInt < 2 ^ 8) (h1 : 0 ≤ p1.toInt ∧ p1.toInt < 2 ^ 8) (h2 : 0 ≤ p2.toInt ∧ p2.toInt < 2 ^ 8) (k2 : 0 ≤ x19.toInt ∧ x19.toInt < 2 ^ 8) (k1 : 0 ≤ x18.toInt ∧ x18.toInt < 2 ^ 8) (k0 : 0 ≤ x17.toInt ∧ x17.toInt < 2 ^ 8) (hR : R.toBitVec.toNat % 2 ^ 24 = x19.toInt.toNat * 2 ^ 16 + x18.toInt.toNat * 2 ^ 8 + x17.toInt.toNat) (e : Int32) : Option.bind (f7_0 3 8 ((((((((0 : Int64) <<< ((8 : Int32) &&& 0x3f).toInt64) ||| (p0.toInt64)) <<< ((8 : Int32) &&& 0x3f).toInt64) ||| (p1.toInt64)) <<< ((8 : Int32) &&& 0x3f).toInt64) ||| (p2.toInt64)) <<< ((40 : Int32) &&& 0x3f).toInt64) 40 R) (fun v18 => (if v18 = e then (some (1 : Int32)) else (some (0 : Int32)))) = if (if x18 = p0 ∧ x17 = p1 then 2 else (if x17 = p0 then 1 else 0)) = e then some 1 else some 0 := by
  have r1 : R.toBitVec.toNat % 2 ^ 8 = x17.toInt.toNat * 2 ^ 0 := by omega
  have q1 : (R.toBitVec.toNat % 2 ^ 8 = p0.toInt.toNat * 2 ^ 0) ↔ (x17 = p0) := by
    clear  hR 
    rw [r1]; simp only [own_ei]
    constructor
    · intro q
      have e0 : x17.toInt.toNat = p0.toInt.toNat := by omega
      exact own_nn2 k0.1 h0.1 e0
    · intro e0; rw [e0]
  have r2 : R.toBitVec.toNat % 2 ^ 16 = x18.toInt.toNat * 2 ^ 8 + x17.toInt.toNat * 2 ^ 0 := by omega
  have q2 : (R.toBitVec.toNat % 2 ^ 16 = p0.toInt.toNat * 2 ^ 8 + p1.toInt.toNat * 2 ^ 0) ↔ (x18 = p0 ∧ x17 = p1) := by
    clear q1 hR r1
    rw [r2]; simp only [own_ei]
    constructor
    · intro q
      have e0 : x17.toInt.toNat = p1.toInt.toNat := by omega
      have e1 : x18.toInt.toNat = p0.toInt.toNat := by omega
      exact ⟨own_nn2 k1.1 h0.1 e1, own_nn2 k0.1 h1.1 e0⟩
    · rintro ⟨e0, e1⟩; rw [e0, e1]

  rw [own_st3_8]
  simp only [own_q3_8_1 p0 p1 p2 R h0 h1 h2, q1, own_q3_8_2 p0 p1 p2 R h0 h1 h2, q2]
  repeat' split
  all_goals simp_all [Option.bind]
theorem own_tv3_16 (p0 p1 p2 x : Int32) : f5_0 3 (li [p0, p1, p2]) 3 x = (if p0 = x then some 1 else (if p1 = x then some 1 else (if p2 = x then some 1 else some 0))) := rfl
theorem own_fd3_16 (p0 p1 p2 x : Int32) (k : Nat) (h : ¬ p0 = x ∧ ¬ p1 = x ∧ ¬ p2 = x) : f2_97 (k + 1) 16 3 16 (li [p0, p1, p2]) 3 x = some (16, 3, 16, x, ((((((((0 : Int64) <<< ((16 : Int32) &&& 0x3f).toInt64) ||| (p0.toInt64)) <<< ((16 : Int32) &&& 0x3f).toInt64) ||| (p1.toInt64)) <<< ((16 : Int32) &&& 0x3f).toInt64) ||| (p2.toInt64)) <<< ((16 : Int32) &&& 0x3f).toInt64), (((p2 &&& (255 : Int32)).toInt64) * (72340172838076673 : Int64))) := by
  have e : f5_0 3 (li [p0, p1, p2]) 3 x = some 0 := by rw [own_tv3_16]; simp [h]
  show Option.bind (f5_0 3 (li [p0, p1, p2]) 3 x) _ = _
  rw [e]
  rfl
theorem own_nx3_16 (p0 p1 p2 x : Int32) (k : Nat) (h : p0 = x ∨ p1 = x ∨ p2 = x) : f2_97 (k + 1) 16 3 16 (li [p0, p1, p2]) 3 x = f2_97 k 16 3 16 (li [p0, p1, p2]) 3 (x + 1) := by
  have e : f5_0 3 (li [p0, p1, p2]) 3 x = some 1 := by
    rw [own_tv3_16]; repeat' split
    all_goals first | rfl | (exfalso; simp_all; done)
  show Option.bind (f5_0 3 (li [p0, p1, p2]) 3 x) _ = _
  rw [e]
  rfl
theorem own_fl3_16 (p0 p1 p2 : Int32) : ∃ fl, f2_97 6 16 3 16 (li [p0, p1, p2]) 3 0 = some (16, 3, 16, fl, ((((((((0 : Int64) <<< ((16 : Int32) &&& 0x3f).toInt64) ||| (p0.toInt64)) <<< ((16 : Int32) &&& 0x3f).toInt64) ||| (p1.toInt64)) <<< ((16 : Int32) &&& 0x3f).toInt64) ||| (p2.toInt64)) <<< ((16 : Int32) &&& 0x3f).toInt64), (((p2 &&& (255 : Int32)).toInt64) * (72340172838076673 : Int64))) := by
  by_cases h0 : p0 = 0 ∨ p1 = 0 ∨ p2 = 0
  case neg => exact ⟨0, own_fd3_16 p0 p1 p2 0 5 (by simpa only [not_or] using h0)⟩
  rw [own_nx3_16 p0 p1 p2 0 5 h0]
  rw [show (0 : Int32) + 1 = 1 from rfl]
  by_cases h1 : p0 = 1 ∨ p1 = 1 ∨ p2 = 1
  case neg => exact ⟨1, own_fd3_16 p0 p1 p2 1 4 (by simpa only [not_or] using h1)⟩
  rw [own_nx3_16 p0 p1 p2 1 4 h1]
  rw [show (1 : Int32) + 1 = 2 from rfl]
  by_cases h2 : p0 = 2 ∨ p1 = 2 ∨ p2 = 2
  case neg => exact ⟨2, own_fd3_16 p0 p1 p2 2 3 (by simpa only [not_or] using h2)⟩
  rw [own_nx3_16 p0 p1 p2 2 3 h2]
  rw [show (2 : Int32) + 1 = 3 from rfl]
  by_cases h3 : p0 = 3 ∨ p1 = 3 ∨ p2 = 3
  case neg => exact ⟨3, own_fd3_16 p0 p1 p2 3 2 (by simpa only [not_or] using h3)⟩
  rw [own_nx3_16 p0 p1 p2 3 2 h3]
  exfalso
  simp only [own_ei, show (0 : Int32).toInt = 0 from rfl, show (1 : Int32).toInt = 1 from rfl, show (2 : Int32).toInt = 2 from rfl, show (3 : Int32).toInt = 3 from rfl] at h0 h1 h2 h3
  omega
theorem own_st3_16 (p0 p1 p2 : Int32) (R : Int64) : f7_0 3 16 ((((((((0 : Int64) <<< ((16 : Int32) &&& 0x3f).toInt64) ||| (p0.toInt64)) <<< ((16 : Int32) &&& 0x3f).toInt64) ||| (p1.toInt64)) <<< ((16 : Int32) &&& 0x3f).toInt64) ||| (p2.toInt64)) <<< ((16 : Int32) &&& 0x3f).toInt64) 16 R = (if (R &&& (((1 : Int64) <<< (((16 : Int32) * 2) &&& 0x3f).toInt64) - (1 : Int64))) = ((((((((((0 : Int64) <<< ((16 : Int32) &&& 0x3f).toInt64) ||| (p0.toInt64)) <<< ((16 : Int32) &&& 0x3f).toInt64) ||| (p1.toInt64)) <<< ((16 : Int32) &&& 0x3f).toInt64) ||| (p2.toInt64)) <<< ((16 : Int32) &&& 0x3f).toInt64).toUInt64 >>> (((16 : Int32) + ((16 : Int32) * ((3 : Int32) - 2))) &&& 0x3f).toInt64.toUInt64).toInt64) then some 2 else (if (R &&& (((1 : Int64) <<< (((16 : Int32) * 1) &&& 0x3f).toInt64) - (1 : Int64))) = ((((((((((0 : Int64) <<< ((16 : Int32) &&& 0x3f).toInt64) ||| (p0.toInt64)) <<< ((16 : Int32) &&& 0x3f).toInt64) ||| (p1.toInt64)) <<< ((16 : Int32) &&& 0x3f).toInt64) ||| (p2.toInt64)) <<< ((16 : Int32) &&& 0x3f).toInt64).toUInt64 >>> (((16 : Int32) + ((16 : Int32) * ((3 : Int32) - 1))) &&& 0x3f).toInt64.toUInt64).toInt64) then some 1 else some 0)) := rfl
theorem own_pn3_16 (p0 p1 p2 : Int32) (h0 : 0 ≤ p0.toInt ∧ p0.toInt < 2 ^ 16) (h1 : 0 ≤ p1.toInt ∧ p1.toInt < 2 ^ 16) (h2 : 0 ≤ p2.toInt ∧ p2.toInt < 2 ^ 16) : ((((((((0 : Int64) <<< ((16 : Int32) &&& 0x3f).toInt64) ||| (p0.toInt64)) <<< ((16 : Int32) &&& 0x3f).toInt64) ||| (p1.toInt64)) <<< ((16 : Int32) &&& 0x3f).toInt64) ||| (p2.toInt64)) <<< ((16 : Int32) &&& 0x3f).toInt64).toBitVec.toNat = (p0.toInt.toNat * 2 ^ 32 + p1.toInt.toNat * 2 ^ 16 + p2.toInt.toNat * 2 ^ 0) * 2 ^ 16 := by
  have z0 : (0 : Int64).toBitVec.toNat = 0 := rfl
  have s0 := own_shlN (0 : Int64) ((16 : Int32) &&& 0x3f).toInt64 16 (by decide)
  have i0 := own_i2lN p0 h0.1
  have o0 := own_orN ((0 : Int64) <<< ((16 : Int32) &&& 0x3f).toInt64) (p0.toInt64) 16 (by omega) (by omega)
  have s1 := own_shlN (((0 : Int64) <<< ((16 : Int32) &&& 0x3f).toInt64) ||| (p0.toInt64)) ((16 : Int32) &&& 0x3f).toInt64 16 (by decide)
  have i1 := own_i2lN p1 h1.1
  have o1 := own_orN ((((0 : Int64) <<< ((16 : Int32) &&& 0x3f).toInt64) ||| (p0.toInt64)) <<< ((16 : Int32) &&& 0x3f).toInt64) (p1.toInt64) 16 (by omega) (by omega)
  have s2 := own_shlN (((((0 : Int64) <<< ((16 : Int32) &&& 0x3f).toInt64) ||| (p0.toInt64)) <<< ((16 : Int32) &&& 0x3f).toInt64) ||| (p1.toInt64)) ((16 : Int32) &&& 0x3f).toInt64 16 (by decide)
  have i2 := own_i2lN p2 h2.1
  have o2 := own_orN ((((((0 : Int64) <<< ((16 : Int32) &&& 0x3f).toInt64) ||| (p0.toInt64)) <<< ((16 : Int32) &&& 0x3f).toInt64) ||| (p1.toInt64)) <<< ((16 : Int32) &&& 0x3f).toInt64) (p2.toInt64) 16 (by omega) (by omega)
  have se := own_shlN (((((((0 : Int64) <<< ((16 : Int32) &&& 0x3f).toInt64) ||| (p0.toInt64)) <<< ((16 : Int32) &&& 0x3f).toInt64) ||| (p1.toInt64)) <<< ((16 : Int32) &&& 0x3f).toInt64) ||| (p2.toInt64)) ((16 : Int32) &&& 0x3f).toInt64 16 (by decide)
  omega
theorem own_q3_16_1 (p0 p1 p2 : Int32) (R : Int64) (h0 : 0 ≤ p0.toInt ∧ p0.toInt < 2 ^ 16) (h1 : 0 ≤ p1.toInt ∧ p1.toInt < 2 ^ 16) (h2 : 0 ≤ p2.toInt ∧ p2.toInt < 2 ^ 16) : ((R &&& (((1 : Int64) <<< (((16 : Int32) * 1) &&& 0x3f).toInt64) - (1 : Int64))) = ((((((((((0 : Int64) <<< ((16 : Int32) &&& 0x3f).toInt64) ||| (p0.toInt64)) <<< ((16 : Int32) &&& 0x3f).toInt64) ||| (p1.toInt64)) <<< ((16 : Int32) &&& 0x3f).toInt64) ||| (p2.toInt64)) <<< ((16 : Int32) &&& 0x3f).toInt64).toUInt64 >>> (((16 : Int32) + ((16 : Int32) * ((3 : Int32) - 1))) &&& 0x3f).toInt64.toUInt64).toInt64)) ↔ R.toBitVec.toNat % 2 ^ 16 = p0.toInt.toNat * 2 ^ 0 := by
  have a := own_pn3_16 p0 p1 p2 h0 h1 h2
  rw [own_bvnat, own_maskN R _ 16 (by decide), own_ushN _ _ 48 (by decide), a]
  constructor <;> intro q <;> omega
theorem own_q3_16_2 (p0 p1 p2 : Int32) (R : Int64) (h0 : 0 ≤ p0.toInt ∧ p0.toInt < 2 ^ 16) (h1 : 0 ≤ p1.toInt ∧ p1.toInt < 2 ^ 16) (h2 : 0 ≤ p2.toInt ∧ p2.toInt < 2 ^ 16) : ((R &&& (((1 : Int64) <<< (((16 : Int32) * 2) &&& 0x3f).toInt64) - (1 : Int64))) = ((((((((((0 : Int64) <<< ((16 : Int32) &&& 0x3f).toInt64) ||| (p0.toInt64)) <<< ((16 : Int32) &&& 0x3f).toInt64) ||| (p1.toInt64)) <<< ((16 : Int32) &&& 0x3f).toInt64) ||| (p2.toInt64)) <<< ((16 : Int32) &&& 0x3f).toInt64).toUInt64 >>> (((16 : Int32) + ((16 : Int32) * ((3 : Int32) - 2))) &&& 0x3f).toInt64.toUInt64).toInt64)) ↔ R.toBitVec.toNat % 2 ^ 32 = p0.toInt.toNat * 2 ^ 16 + p1.toInt.toNat * 2 ^ 0 := by
  have a := own_pn3_16 p0 p1 p2 h0 h1 h2
  rw [own_bvnat, own_maskN R _ 32 (by decide), own_ushN _ _ 32 (by decide), a]
  constructor <;> intro q <;> omega
theorem own_end3_16 (p0 p1 p2 x17 x18 x19 : Int32) (R : Int64) (h0 : 0 ≤ p0.toInt ∧ p0.toInt < 2 ^ 16) (h1 : 0 ≤ p1.toInt ∧ p1.toInt < 2 ^ 16) (h2 : 0 ≤ p2.toInt ∧ p2.toInt < 2 ^ 16) (k2 : 0 ≤ x19.toInt ∧ x19.toInt < 2 ^ 16) (k1 : 0 ≤ x18.toInt ∧ x18.toInt < 2 ^ 16) (k0 : 0 ≤ x17.toInt ∧ x17.toInt < 2 ^ 16) (hR : R.toBitVec.toNat % 2 ^ 48 = x19.toInt.toNat * 2 ^ 32 + x18.toInt.toNat * 2 ^ 16 + x17.toInt.toNat) (e : Int32) : Option.bind (f7_0 3 16 ((((((((0 : Int64) <<< ((16 : Int32) &&& 0x3f).toInt64) ||| (p0.toInt64)) <<< ((16 : Int32) &&& 0x3f).toInt64) ||| (p1.toInt64)) <<< ((16 : Int32) &&& 0x3f).toInt64) ||| (p2.toInt64)) <<< ((16 : Int32) &&& 0x3f).toInt64) 16 R) (fun v18 => (if v18 = e then (some (1 : Int32)) else (some (0 : Int32)))) = if (if x18 = p0 ∧ x17 = p1 then 2 else (if x17 = p0 then 1 else 0)) = e then some 1 else some 0 := by
  have r1 : R.toBitVec.toNat % 2 ^ 16 = x17.toInt.toNat * 2 ^ 0 := by omega
  have q1 : (R.toBitVec.toNat % 2 ^ 16 = p0.toInt.toNat * 2 ^ 0) ↔ (x17 = p0) := by
    clear  hR 
    rw [r1]; simp only [own_ei]
    constructor
    · intro q
      have e0 : x17.toInt.toNat = p0.toInt.toNat := by omega
      exact own_nn2 k0.1 h0.1 e0
    · intro e0; rw [e0]
  have r2 : R.toBitVec.toNat % 2 ^ 32 = x18.toInt.toNat * 2 ^ 16 + x17.toInt.toNat * 2 ^ 0 := by omega
  have q2 : (R.toBitVec.toNat % 2 ^ 32 = p0.toInt.toNat * 2 ^ 16 + p1.toInt.toNat * 2 ^ 0) ↔ (x18 = p0 ∧ x17 = p1) := by
    clear q1 hR r1
    rw [r2]; simp only [own_ei]
    constructor
    · intro q
      have e0 : x17.toInt.toNat = p1.toInt.toNat := by omega
      have e1 : x18.toInt.toNat = p0.toInt.toNat := by omega
      exact ⟨own_nn2 k1.1 h0.1 e1, own_nn2 k0.1 h1.1 e0⟩
    · rintro ⟨e0, e1⟩; rw [e0, e1]

  rw [own_st3_16]
  simp only [own_q3_16_1 p0 p1 p2 R h0 h1 h2, q1, own_q3_16_2 p0 p1 p2 R h0 h1 h2, q2]
  repeat' split
  all_goals simp_all [Option.bind]
theorem own_tv4_8 (p0 p1 p2 p3 x : Int32) : f5_0 4 (li [p0, p1, p2, p3]) 4 x = (if p0 = x then some 1 else (if p1 = x then some 1 else (if p2 = x then some 1 else (if p3 = x then some 1 else some 0)))) := rfl
theorem own_fd4_8 (p0 p1 p2 p3 x : Int32) (k : Nat) (h : ¬ p0 = x ∧ ¬ p1 = x ∧ ¬ p2 = x ∧ ¬ p3 = x) : f2_97 (k + 1) 8 4 32 (li [p0, p1, p2, p3]) 4 x = some (8, 4, 32, x, ((((((((((0 : Int64) <<< ((8 : Int32) &&& 0x3f).toInt64) ||| (p0.toInt64)) <<< ((8 : Int32) &&& 0x3f).toInt64) ||| (p1.toInt64)) <<< ((8 : Int32) &&& 0x3f).toInt64) ||| (p2.toInt64)) <<< ((8 : Int32) &&& 0x3f).toInt64) ||| (p3.toInt64)) <<< ((32 : Int32) &&& 0x3f).toInt64), (((p3 &&& (255 : Int32)).toInt64) * (72340172838076673 : Int64))) := by
  have e : f5_0 4 (li [p0, p1, p2, p3]) 4 x = some 0 := by rw [own_tv4_8]; simp [h]
  show Option.bind (f5_0 4 (li [p0, p1, p2, p3]) 4 x) _ = _
  rw [e]
  rfl
theorem own_nx4_8 (p0 p1 p2 p3 x : Int32) (k : Nat) (h : p0 = x ∨ p1 = x ∨ p2 = x ∨ p3 = x) : f2_97 (k + 1) 8 4 32 (li [p0, p1, p2, p3]) 4 x = f2_97 k 8 4 32 (li [p0, p1, p2, p3]) 4 (x + 1) := by
  have e : f5_0 4 (li [p0, p1, p2, p3]) 4 x = some 1 := by
    rw [own_tv4_8]; repeat' split
    all_goals first | rfl | (exfalso; simp_all; done)
  show Option.bind (f5_0 4 (li [p0, p1, p2, p3]) 4 x) _ = _
  rw [e]
  rfl
theorem own_fl4_8 (p0 p1 p2 p3 : Int32) : ∃ fl, f2_97 6 8 4 32 (li [p0, p1, p2, p3]) 4 0 = some (8, 4, 32, fl, ((((((((((0 : Int64) <<< ((8 : Int32) &&& 0x3f).toInt64) ||| (p0.toInt64)) <<< ((8 : Int32) &&& 0x3f).toInt64) ||| (p1.toInt64)) <<< ((8 : Int32) &&& 0x3f).toInt64) ||| (p2.toInt64)) <<< ((8 : Int32) &&& 0x3f).toInt64) ||| (p3.toInt64)) <<< ((32 : Int32) &&& 0x3f).toInt64), (((p3 &&& (255 : Int32)).toInt64) * (72340172838076673 : Int64))) := by
  by_cases h0 : p0 = 0 ∨ p1 = 0 ∨ p2 = 0 ∨ p3 = 0
  case neg => exact ⟨0, own_fd4_8 p0 p1 p2 p3 0 5 (by simpa only [not_or] using h0)⟩
  rw [own_nx4_8 p0 p1 p2 p3 0 5 h0]
  rw [show (0 : Int32) + 1 = 1 from rfl]
  by_cases h1 : p0 = 1 ∨ p1 = 1 ∨ p2 = 1 ∨ p3 = 1
  case neg => exact ⟨1, own_fd4_8 p0 p1 p2 p3 1 4 (by simpa only [not_or] using h1)⟩
  rw [own_nx4_8 p0 p1 p2 p3 1 4 h1]
  rw [show (1 : Int32) + 1 = 2 from rfl]
  by_cases h2 : p0 = 2 ∨ p1 = 2 ∨ p2 = 2 ∨ p3 = 2
  case neg => exact ⟨2, own_fd4_8 p0 p1 p2 p3 2 3 (by simpa only [not_or] using h2)⟩
  rw [own_nx4_8 p0 p1 p2 p3 2 3 h2]
  rw [show (2 : Int32) + 1 = 3 from rfl]
  by_cases h3 : p0 = 3 ∨ p1 = 3 ∨ p2 = 3 ∨ p3 = 3
  case neg => exact ⟨3, own_fd4_8 p0 p1 p2 p3 3 2 (by simpa only [not_or] using h3)⟩
  rw [own_nx4_8 p0 p1 p2 p3 3 2 h3]
  rw [show (3 : Int32) + 1 = 4 from rfl]
  by_cases h4 : p0 = 4 ∨ p1 = 4 ∨ p2 = 4 ∨ p3 = 4
  case neg => exact ⟨4, own_fd4_8 p0 p1 p2 p3 4 1 (by simpa only [not_or] using h4)⟩
  rw [own_nx4_8 p0 p1 p2 p3 4 1 h4]
  exfalso
  simp only [own_ei, show (0 : Int32).toInt = 0 from rfl, show (1 : Int32).toInt = 1 from rfl, show (2 : Int32).toInt = 2 from rfl, show (3 : Int32).toInt = 3 from rfl, show (4 : Int32).toInt = 4 from rfl] at h0 h1 h2 h3 h4
  omega
theorem own_st4_8 (p0 p1 p2 p3 : Int32) (R : Int64) : f7_0 4 8 ((((((((((0 : Int64) <<< ((8 : Int32) &&& 0x3f).toInt64) ||| (p0.toInt64)) <<< ((8 : Int32) &&& 0x3f).toInt64) ||| (p1.toInt64)) <<< ((8 : Int32) &&& 0x3f).toInt64) ||| (p2.toInt64)) <<< ((8 : Int32) &&& 0x3f).toInt64) ||| (p3.toInt64)) <<< ((32 : Int32) &&& 0x3f).toInt64) 32 R = (if (R &&& (((1 : Int64) <<< (((8 : Int32) * 3) &&& 0x3f).toInt64) - (1 : Int64))) = ((((((((((((0 : Int64) <<< ((8 : Int32) &&& 0x3f).toInt64) ||| (p0.toInt64)) <<< ((8 : Int32) &&& 0x3f).toInt64) ||| (p1.toInt64)) <<< ((8 : Int32) &&& 0x3f).toInt64) ||| (p2.toInt64)) <<< ((8 : Int32) &&& 0x3f).toInt64) ||| (p3.toInt64)) <<< ((32 : Int32) &&& 0x3f).toInt64).toUInt64 >>> (((32 : Int32) + ((8 : Int32) * ((4 : Int32) - 3))) &&& 0x3f).toInt64.toUInt64).toInt64) then some 3 else (if (R &&& (((1 : Int64) <<< (((8 : Int32) * 2) &&& 0x3f).toInt64) - (1 : Int64))) = ((((((((((((0 : Int64) <<< ((8 : Int32) &&& 0x3f).toInt64) ||| (p0.toInt64)) <<< ((8 : Int32) &&& 0x3f).toInt64) ||| (p1.toInt64)) <<< ((8 : Int32) &&& 0x3f).toInt64) ||| (p2.toInt64)) <<< ((8 : Int32) &&& 0x3f).toInt64) ||| (p3.toInt64)) <<< ((32 : Int32) &&& 0x3f).toInt64).toUInt64 >>> (((32 : Int32) + ((8 : Int32) * ((4 : Int32) - 2))) &&& 0x3f).toInt64.toUInt64).toInt64) then some 2 else (if (R &&& (((1 : Int64) <<< (((8 : Int32) * 1) &&& 0x3f).toInt64) - (1 : Int64))) = ((((((((((((0 : Int64) <<< ((8 : Int32) &&& 0x3f).toInt64) ||| (p0.toInt64)) <<< ((8 : Int32) &&& 0x3f).toInt64) ||| (p1.toInt64)) <<< ((8 : Int32) &&& 0x3f).toInt64) ||| (p2.toInt64)) <<< ((8 : Int32) &&& 0x3f).toInt64) ||| (p3.toInt64)) <<< ((32 : Int32) &&& 0x3f).toInt64).toUInt64 >>> (((32 : Int32) + ((8 : Int32) * ((4 : Int32) - 1))) &&& 0x3f).toInt64.toUInt64).toInt64) then some 1 else some 0))) := rfl
theorem own_pn4_8 (p0 p1 p2 p3 : Int32) (h0 : 0 ≤ p0.toInt ∧ p0.toInt < 2 ^ 8) (h1 : 0 ≤ p1.toInt ∧ p1.toInt < 2 ^ 8) (h2 : 0 ≤ p2.toInt ∧ p2.toInt < 2 ^ 8) (h3 : 0 ≤ p3.toInt ∧ p3.toInt < 2 ^ 8) : ((((((((((0 : Int64) <<< ((8 : Int32) &&& 0x3f).toInt64) ||| (p0.toInt64)) <<< ((8 : Int32) &&& 0x3f).toInt64) ||| (p1.toInt64)) <<< ((8 : Int32) &&& 0x3f).toInt64) ||| (p2.toInt64)) <<< ((8 : Int32) &&& 0x3f).toInt64) ||| (p3.toInt64)) <<< ((32 : Int32) &&& 0x3f).toInt64).toBitVec.toNat = (p0.toInt.toNat * 2 ^ 24 + p1.toInt.toNat * 2 ^ 16 + p2.toInt.toNat * 2 ^ 8 + p3.toInt.toNat * 2 ^ 0) * 2 ^ 32 := by
  have z0 : (0 : Int64).toBitVec.toNat = 0 := rfl
  have s0 := own_shlN (0 : Int64) ((8 : Int32) &&& 0x3f).toInt64 8 (by decide)
  have i0 := own_i2lN p0 h0.1
  have o0 := own_orN ((0 : Int64) <<< ((8 : Int32) &&& 0x3f).toInt64) (p0.toInt64) 8 (by omega) (by omega)
  have s1 := own_shlN (((0 : Int64) <<< ((8 : Int32) &&& 0x3f).toInt64) ||| (p0.toInt64)) ((8 : Int32) &&& 0x3f).toInt64 8 (by decide)
  have i1 := own_i2lN p1 h1.1
  have o1 := own_orN ((((0 : Int64) <<< ((8 : Int32) &&& 0x3f).toInt64) ||| (p0.toInt64)) <<< ((8 : Int32) &&& 0x3f).toInt64) (p1.toInt64) 8 (by omega) (by omega)
  have s2 := own_shlN (((((0 : Int64) <<< ((8 : Int32) &&& 0x3f).toInt64) ||| (p0.toInt64)) <<< ((8 : Int32) &&& 0x3f).toInt64) ||| (p1.toInt64)) ((8 : Int32) &&& 0x3f).toInt64 8 (by decide)
  have i2 := own_i2lN p2 h2.1
  have o2 := own_orN ((((((0 : Int64) <<< ((8 : Int32) &&& 0x3f).toInt64) ||| (p0.toInt64)) <<< ((8 : Int32) &&& 0x3f).toInt64) ||| (p1.toInt64)) <<< ((8 : Int32) &&& 0x3f).toInt64) (p2.toInt64) 8 (by omega) (by omega)
  have s3 := own_shlN (((((((0 : Int64) <<< ((8 : Int32) &&& 0x3f).toInt64) ||| (p0.toInt64)) <<< ((8 : Int32) &&& 0x3f).toInt64) ||| (p1.toInt64)) <<< ((8 : Int32) &&& 0x3f).toInt64) ||| (p2.toInt64)) ((8 : Int32) &&& 0x3f).toInt64 8 (by decide)
  have i3 := own_i2lN p3 h3.1
  have o3 := own_orN ((((((((0 : Int64) <<< ((8 : Int32) &&& 0x3f).toInt64) ||| (p0.toInt64)) <<< ((8 : Int32) &&& 0x3f).toInt64) ||| (p1.toInt64)) <<< ((8 : Int32) &&& 0x3f).toInt64) ||| (p2.toInt64)) <<< ((8 : Int32) &&& 0x3f).toInt64) (p3.toInt64) 8 (by omega) (by omega)
  have se := own_shlN (((((((((0 : Int64) <<< ((8 : Int32) &&& 0x3f).toInt64) ||| (p0.toInt64)) <<< ((8 : Int32) &&& 0x3f).toInt64) ||| (p1.toInt64)) <<< ((8 : Int32) &&& 0x3f).toInt64) ||| (p2.toInt64)) <<< ((8 : Int32) &&& 0x3f).toInt64) ||| (p3.toInt64)) ((32 : Int32) &&& 0x3f).toInt64 32 (by decide)
  omega
theorem own_q4_8_1 (p0 p1 p2 p3 : Int32) (R : Int64) (h0 : 0 ≤ p0.toInt ∧ p0.toInt < 2 ^ 8) (h1 : 0 ≤ p1.toInt ∧ p1.toInt < 2 ^ 8) (h2 : 0 ≤ p2.toInt ∧ p2.toInt < 2 ^ 8) (h3 : 0 ≤ p3.toInt ∧ p3.toInt < 2 ^ 8) : ((R &&& (((1 : Int64) <<< (((8 : Int32) * 1) &&& 0x3f).toInt64) - (1 : Int64))) = ((((((((((((0 : Int64) <<< ((8 : Int32) &&& 0x3f).toInt64) ||| (p0.toInt64)) <<< ((8 : Int32) &&& 0x3f).toInt64) ||| (p1.toInt64)) <<< ((8 : Int32) &&& 0x3f).toInt64) ||| (p2.toInt64)) <<< ((8 : Int32) &&& 0x3f).toInt64) ||| (p3.toInt64)) <<< ((32 : Int32) &&& 0x3f).toInt64).toUInt64 >>> (((32 : Int32) + ((8 : Int32) * ((4 : Int32) - 1))) &&& 0x3f).toInt64.toUInt64).toInt64)) ↔ R.toBitVec.toNat % 2 ^ 8 = p0.toInt.toNat * 2 ^ 0 := by
  have a := own_pn4_8 p0 p1 p2 p3 h0 h1 h2 h3
  rw [own_bvnat, own_maskN R _ 8 (by decide), own_ushN _ _ 56 (by decide), a]
  constructor <;> intro q <;> omega
theorem own_q4_8_2 (p0 p1 p2 p3 : Int32) (R : Int64) (h0 : 0 ≤ p0.toInt ∧ p0.toInt < 2 ^ 8) (h1 : 0 ≤ p1.toInt ∧ p1.toInt < 2 ^ 8) (h2 : 0 ≤ p2.toInt ∧ p2.toInt < 2 ^ 8) (h3 : 0 ≤ p3.toInt ∧ p3.toInt < 2 ^ 8) : ((R &&& (((1 : Int64) <<< (((8 : Int32) * 2) &&& 0x3f).toInt64) - (1 : Int64))) = ((((((((((((0 : Int64) <<< ((8 : Int32) &&& 0x3f).toInt64) ||| (p0.toInt64)) <<< ((8 : Int32) &&& 0x3f).toInt64) ||| (p1.toInt64)) <<< ((8 : Int32) &&& 0x3f).toInt64) ||| (p2.toInt64)) <<< ((8 : Int32) &&& 0x3f).toInt64) ||| (p3.toInt64)) <<< ((32 : Int32) &&& 0x3f).toInt64).toUInt64 >>> (((32 : Int32) + ((8 : Int32) * ((4 : Int32) - 2))) &&& 0x3f).toInt64.toUInt64).toInt64)) ↔ R.toBitVec.toNat % 2 ^ 16 = p0.toInt.toNat * 2 ^ 8 + p1.toInt.toNat * 2 ^ 0 := by
  have a := own_pn4_8 p0 p1 p2 p3 h0 h1 h2 h3
  rw [own_bvnat, own_maskN R _ 16 (by decide), own_ushN _ _ 48 (by decide), a]
  constructor <;> intro q <;> omega
theorem own_q4_8_3 (p0 p1 p2 p3 : Int32) (R : Int64) (h0 : 0 ≤ p0.toInt ∧ p0.toInt < 2 ^ 8) (h1 : 0 ≤ p1.toInt ∧ p1.toInt < 2 ^ 8) (h2 : 0 ≤ p2.toInt ∧ p2.toInt < 2 ^ 8) (h3 : 0 ≤ p3.toInt ∧ p3.toInt < 2 ^ 8) : ((R &&& (((1 : Int64) <<< (((8 : Int32) * 3) &&& 0x3f).toInt64) - (1 : Int64))) = ((((((((((((0 : Int64) <<< ((8 : Int32) &&& 0x3f).toInt64) ||| (p0.toInt64)) <<< ((8 : Int32) &&& 0x3f).toInt64) ||| (p1.toInt64)) <<< ((8 : Int32) &&& 0x3f).toInt64) ||| (p2.toInt64)) <<< ((8 : Int32) &&& 0x3f).toInt64) ||| (p3.toInt64)) <<< ((32 : Int32) &&& 0x3f).toInt64).toUInt64 >>> (((32 : Int32) + ((8 : Int32) * ((4 : Int32) - 3))) &&& 0x3f).toInt64.toUInt64).toInt64)) ↔ R.toBitVec.toNat % 2 ^ 24 = p0.toInt.toNat * 2 ^ 16 + p1.toInt.toNat * 2 ^ 8 + p2.toInt.toNat * 2 ^ 0 := by
  have a := own_pn4_8 p0 p1 p2 p3 h0 h1 h2 h3
  rw [own_bvnat, own_maskN R _ 24 (by decide), own_ushN _ _ 40 (by decide), a]
  constructor <;> intro q <;> omega
theorem own_end4_8 (p0 p1 p2 p3 x17 x18 x19 : Int32) (R : Int64) (h0 : 0 ≤ p0.toInt ∧ p0.toInt < 2 ^ 8) (h1 : 0 ≤ p1.toInt ∧ p1.toInt < 2 ^ 8) (h2 : 0 ≤ p2.toInt ∧ p2.toInt < 2 ^ 8) (h3 : 0 ≤ p3.toInt ∧ p3.toInt < 2 ^ 8) (k2 : 0 ≤ x19.toInt ∧ x19.toInt < 2 ^ 8) (k1 : 0 ≤ x18.toInt ∧ x18.toInt < 2 ^ 8) (k0 : 0 ≤ x17.toInt ∧ x17.toInt < 2 ^ 8) (hR : R.toBitVec.toNat % 2 ^ 24 = x19.toInt.toNat * 2 ^ 16 + x18.toInt.toNat * 2 ^ 8 + x17.toInt.toNat) (e : Int32) : Option.bind (f7_0 4 8 ((((((((((0 : Int64) <<< ((8 : Int32) &&& 0x3f).toInt64) ||| (p0.toInt64)) <<< ((8 : Int32) &&& 0x3f).toInt64) ||| (p1.toInt64)) <<< ((8 : Int32) &&& 0x3f).toInt64) ||| (p2.toInt64)) <<< ((8 : Int32) &&& 0x3f).toInt64) ||| (p3.toInt64)) <<< ((32 : Int32) &&& 0x3f).toInt64) 32 R) (fun v18 => (if v18 = e then (some (1 : Int32)) else (some (0 : Int32)))) = if (if x19 = p0 ∧ x18 = p1 ∧ x17 = p2 then 3 else (if x18 = p0 ∧ x17 = p1 then 2 else (if x17 = p0 then 1 else 0))) = e then some 1 else some 0 := by
  have r1 : R.toBitVec.toNat % 2 ^ 8 = x17.toInt.toNat * 2 ^ 0 := by omega
  have q1 : (R.toBitVec.toNat % 2 ^ 8 = p0.toInt.toNat * 2 ^ 0) ↔ (x17 = p0) := by
    clear  hR 
    rw [r1]; simp only [own_ei]
    constructor
    · intro q
      have e0 : x17.toInt.toNat = p0.toInt.toNat := by omega
      exact own_nn2 k0.1 h0.1 e0
    · intro e0; rw [e0]
  have r2 : R.toBitVec.toNat % 2 ^ 16 = x18.toInt.toNat * 2 ^ 8 + x17.toInt.toNat * 2 ^ 0 := by omega
  have q2 : (R.toBitVec.toNat % 2 ^ 16 = p0.toInt.toNat * 2 ^ 8 + p1.toInt.toNat * 2 ^ 0) ↔ (x18 = p0 ∧ x17 = p1) := by
    clear q1 hR r1
    rw [r2]; simp only [own_ei]
    constructor
    · intro q
      have e0 : x17.toInt.toNat = p1.toInt.toNat := by omega
      have e1 : x18.toInt.toNat = p0.toInt.toNat := by omega
      exact ⟨own_nn2 k1.1 h0.1 e1, own_nn2 k0.1 h1.1 e0⟩
    · rintro ⟨e0, e1⟩; rw [e0, e1]
  have r3 : R.toBitVec.toNat % 2 ^ 24 = x19.toInt.toNat * 2 ^ 16 + x18.toInt.toNat * 2 ^ 8 + x17.toInt.toNat * 2 ^ 0 := by omega
  have q3 : (R.toBitVec.toNat % 2 ^ 24 = p0.toInt.toNat * 2 ^ 16 + p1.toInt.toNat * 2 ^ 8 + p2.toInt.toNat * 2 ^ 0) ↔ (x19 = p0 ∧ x18 = p1 ∧ x17 = p2) := by
    clear q1 q2 hR r1 r2
    rw [r3]; simp only [own_ei]
    constructor
    · intro q
      have e0 : x17.toInt.toNat = p2.toInt.toNat := by omega
      have e1 : x18.toInt.toNat = p1.toInt.toNat := by omega
      have e2 : x19.toInt.toNat = p0.toInt.toNat := by omega
      exact ⟨own_nn2 k2.1 h0.1 e2, own_nn2 k1.1 h1.1 e1, own_nn2 k0.1 h2.1 e0⟩
    · rintro ⟨e0, e1, e2⟩; rw [e0, e1, e2]

  rw [own_st4_8]
  simp only [own_q4_8_1 p0 p1 p2 p3 R h0 h1 h2 h3, q1, own_q4_8_2 p0 p1 p2 p3 R h0 h1 h2 h3, q2, own_q4_8_3 p0 p1 p2 p3 R h0 h1 h2 h3, q3]
  repeat' split
  all_goals simp_all [Option.bind]
theorem own_tv4_16 (p0 p1 p2 p3 x : Int32) : f5_0 4 (li [p0, p1, p2, p3]) 4 x = (if p0 = x then some 1 else (if p1 = x then some 1 else (if p2 = x then some 1 else (if p3 = x then some 1 else some 0)))) := rfl
theorem own_fd4_16 (p0 p1 p2 p3 x : Int32) (k : Nat) (h : ¬ p0 = x ∧ ¬ p1 = x ∧ ¬ p2 = x ∧ ¬ p3 = x) : f2_97 (k + 1) 16 4 0 (li [p0, p1, p2, p3]) 4 x = some (16, 4, 0, x, ((((((((((0 : Int64) <<< ((16 : Int32) &&& 0x3f).toInt64) ||| (p0.toInt64)) <<< ((16 : Int32) &&& 0x3f).toInt64) ||| (p1.toInt64)) <<< ((16 : Int32) &&& 0x3f).toInt64) ||| (p2.toInt64)) <<< ((16 : Int32) &&& 0x3f).toInt64) ||| (p3.toInt64)) <<< ((0 : Int32) &&& 0x3f).toInt64), (((p3 &&& (255 : Int32)).toInt64) * (72340172838076673 : Int64))) := by
  have e : f5_0 4 (li [p0, p1, p2, p3]) 4 x = some 0 := by rw [own_tv4_16]; simp [h]
  show Option.bind (f5_0 4 (li [p0, p1, p2, p3]) 4 x) _ = _
  rw [e]
  rfl
theorem own_nx4_16 (p0 p1 p2 p3 x : Int32) (k : Nat) (h : p0 = x ∨ p1 = x ∨ p2 = x ∨ p3 = x) : f2_97 (k + 1) 16 4 0 (li [p0, p1, p2, p3]) 4 x = f2_97 k 16 4 0 (li [p0, p1, p2, p3]) 4 (x + 1) := by
  have e : f5_0 4 (li [p0, p1, p2, p3]) 4 x = some 1 := by
    rw [own_tv4_16]; repeat' split
    all_goals first | rfl | (exfalso; simp_all; done)
  show Option.bind (f5_0 4 (li [p0, p1, p2, p3]) 4 x) _ = _
  rw [e]
  rfl
theorem own_fl4_16 (p0 p1 p2 p3 : Int32) : ∃ fl, f2_97 6 16 4 0 (li [p0, p1, p2, p3]) 4 0 = some (16, 4, 0, fl, ((((((((((0 : Int64) <<< ((16 : Int32) &&& 0x3f).toInt64) ||| (p0.toInt64)) <<< ((16 : Int32) &&& 0x3f).toInt64) ||| (p1.toInt64)) <<< ((16 : Int32) &&& 0x3f).toInt64) ||| (p2.toInt64)) <<< ((16 : Int32) &&& 0x3f).toInt64) ||| (p3.toInt64)) <<< ((0 : Int32) &&& 0x3f).toInt64), (((p3 &&& (255 : Int32)).toInt64) * (72340172838076673 : Int64))) := by
  by_cases h0 : p0 = 0 ∨ p1 = 0 ∨ p2 = 0 ∨ p3 = 0
  case neg => exact ⟨0, own_fd4_16 p0 p1 p2 p3 0 5 (by simpa only [not_or] using h0)⟩
  rw [own_nx4_16 p0 p1 p2 p3 0 5 h0]
  rw [show (0 : Int32) + 1 = 1 from rfl]
  by_cases h1 : p0 = 1 ∨ p1 = 1 ∨ p2 = 1 ∨ p3 = 1
  case neg => exact ⟨1, own_fd4_16 p0 p1 p2 p3 1 4 (by simpa only [not_or] using h1)⟩
  rw [own_nx4_16 p0 p1 p2 p3 1 4 h1]
  rw [show (1 : Int32) + 1 = 2 from rfl]
  by_cases h2 : p0 = 2 ∨ p1 = 2 ∨ p2 = 2 ∨ p3 = 2
  case neg => exact ⟨2, own_fd4_16 p0 p1 p2 p3 2 3 (by simpa only [not_or] using h2)⟩
  rw [own_nx4_16 p0 p1 p2 p3 2 3 h2]
  rw [show (2 : Int32) + 1 = 3 from rfl]
  by_cases h3 : p0 = 3 ∨ p1 = 3 ∨ p2 = 3 ∨ p3 = 3
  case neg => exact ⟨3, own_fd4_16 p0 p1 p2 p3 3 2 (by simpa only [not_or] using h3)⟩
  rw [own_nx4_16 p0 p1 p2 p3 3 2 h3]
  rw [show (3 : Int32) + 1 = 4 from rfl]
  by_cases h4 : p0 = 4 ∨ p1 = 4 ∨ p2 = 4 ∨ p3 = 4
  case neg => exact ⟨4, own_fd4_16 p0 p1 p2 p3 4 1 (by simpa only [not_or] using h4)⟩
  rw [own_nx4_16 p0 p1 p2 p3 4 1 h4]
  exfalso
  simp only [own_ei, show (0 : Int32).toInt = 0 from rfl, show (1 : Int32).toInt = 1 from rfl, show (2 : Int32).toInt = 2 from rfl, show (3 : Int32).toInt = 3 from rfl, show (4 : Int32).toInt = 4 from rfl] at h0 h1 h2 h3 h4
  omega
theorem own_st4_16 (p0 p1 p2 p3 : Int32) (R : Int64) : f7_0 4 16 ((((((((((0 : Int64) <<< ((16 : Int32) &&& 0x3f).toInt64) ||| (p0.toInt64)) <<< ((16 : Int32) &&& 0x3f).toInt64) ||| (p1.toInt64)) <<< ((16 : Int32) &&& 0x3f).toInt64) ||| (p2.toInt64)) <<< ((16 : Int32) &&& 0x3f).toInt64) ||| (p3.toInt64)) <<< ((0 : Int32) &&& 0x3f).toInt64) 0 R = (if (R &&& (((1 : Int64) <<< (((16 : Int32) * 3) &&& 0x3f).toInt64) - (1 : Int64))) = ((((((((((((0 : Int64) <<< ((16 : Int32) &&& 0x3f).toInt64) ||| (p0.toInt64)) <<< ((16 : Int32) &&& 0x3f).toInt64) ||| (p1.toInt64)) <<< ((16 : Int32) &&& 0x3f).toInt64) ||| (p2.toInt64)) <<< ((16 : Int32) &&& 0x3f).toInt64) ||| (p3.toInt64)) <<< ((0 : Int32) &&& 0x3f).toInt64).toUInt64 >>> (((0 : Int32) + ((16 : Int32) * ((4 : Int32) - 3))) &&& 0x3f).toInt64.toUInt64).toInt64) then some 3 else (if (R &&& (((1 : Int64) <<< (((16 : Int32) * 2) &&& 0x3f).toInt64) - (1 : Int64))) = ((((((((((((0 : Int64) <<< ((16 : Int32) &&& 0x3f).toInt64) ||| (p0.toInt64)) <<< ((16 : Int32) &&& 0x3f).toInt64) ||| (p1.toInt64)) <<< ((16 : Int32) &&& 0x3f).toInt64) ||| (p2.toInt64)) <<< ((16 : Int32) &&& 0x3f).toInt64) ||| (p3.toInt64)) <<< ((0 : Int32) &&& 0x3f).toInt64).toUInt64 >>> (((0 : Int32) + ((16 : Int32) * ((4 : Int32) - 2))) &&& 0x3f).toInt64.toUInt64).toInt64) then some 2 else (if (R &&& (((1 : Int64) <<< (((16 : Int32) * 1) &&& 0x3f).toInt64) - (1 : Int64))) = ((((((((((((0 : Int64) <<< ((16 : Int32) &&& 0x3f).toInt64) ||| (p0.toInt64)) <<< ((16 : Int32) &&& 0x3f).toInt64) ||| (p1.toInt64)) <<< ((16 : Int32) &&& 0x3f).toInt64) ||| (p2.toInt64)) <<< ((16 : Int32) &&& 0x3f).toInt64) ||| (p3.toInt64)) <<< ((0 : Int32) &&& 0x3f).toInt64).toUInt64 >>> (((0 : Int32) + ((16 : Int32) * ((4 : Int32) - 1))) &&& 0x3f).toInt64.toUInt64).toInt64) then some 1 else some 0))) := rfl
theorem own_pn4_16 (p0 p1 p2 p3 : Int32) (h0 : 0 ≤ p0.toInt ∧ p0.toInt < 2 ^ 16) (h1 : 0 ≤ p1.toInt ∧ p1.toInt < 2 ^ 16) (h2 : 0 ≤ p2.toInt ∧ p2.toInt < 2 ^ 16) (h3 : 0 ≤ p3.toInt ∧ p3.toInt < 2 ^ 16) : ((((((((((0 : Int64) <<< ((16 : Int32) &&& 0x3f).toInt64) ||| (p0.toInt64)) <<< ((16 : Int32) &&& 0x3f).toInt64) ||| (p1.toInt64)) <<< ((16 : Int32) &&& 0x3f).toInt64) ||| (p2.toInt64)) <<< ((16 : Int32) &&& 0x3f).toInt64) ||| (p3.toInt64)) <<< ((0 : Int32) &&& 0x3f).toInt64).toBitVec.toNat = (p0.toInt.toNat * 2 ^ 48 + p1.toInt.toNat * 2 ^ 32 + p2.toInt.toNat * 2 ^ 16 + p3.toInt.toNat * 2 ^ 0) * 2 ^ 0 := by
  have z0 : (0 : Int64).toBitVec.toNat = 0 := rfl
  have s0 := own_shlN (0 : Int64) ((16 : Int32) &&& 0x3f).toInt64 16 (by decide)
  have i0 := own_i2lN p0 h0.1
  have o0 := own_orN ((0 : Int64) <<< ((16 : Int32) &&& 0x3f).toInt64) (p0.toInt64) 16 (by omega) (by omega)
  have s1 := own_shlN (((0 : Int64) <<< ((16 : Int32) &&& 0x3f).toInt64) ||| (p0.toInt64)) ((16 : Int32) &&& 0x3f).toInt64 16 (by decide)
  have i1 := own_i2lN p1 h1.1
  have o1 := own_orN ((((0 : Int64) <<< ((16 : Int32) &&& 0x3f).toInt64) ||| (p0.toInt64)) <<< ((16 : Int32) &&& 0x3f).toInt64) (p1.toInt64) 16 (by omega) (by omega)
  have s2 := own_shlN (((((0 : Int64) <<< ((16 : Int32) &&& 0x3f).toInt64) ||| (p0.toInt64)) <<< ((16 : Int32) &&& 0x3f).toInt64) ||| (p1.toInt64)) ((16 : Int32) &&& 0x3f).toInt64 16 (by decide)
  have i2 := own_i2lN p2 h2.1
  have o2 := own_orN ((((((0 : Int64) <<< ((16 : Int32) &&& 0x3f).toInt64) ||| (p0.toInt64)) <<< ((16 : Int32) &&& 0x3f).toInt64) ||| (p1.toInt64)) <<< ((16 : Int32) &&& 0x3f).toInt64) (p2.toInt64) 16 (by omega) (by omega)
  have s3 := own_shlN (((((((0 : Int64) <<< ((16 : Int32) &&& 0x3f).toInt64) ||| (p0.toInt64)) <<< ((16 : Int32) &&& 0x3f).toInt64) ||| (p1.toInt64)) <<< ((16 : Int32) &&& 0x3f).toInt64) ||| (p2.toInt64)) ((16 : Int32) &&& 0x3f).toInt64 16 (by decide)
  have i3 := own_i2lN p3 h3.1
  have o3 := own_orN ((((((((0 : Int64) <<< ((16 : Int32) &&& 0x3f).toInt64) ||| (p0.toInt64)) <<< ((16 : Int32) &&& 0x3f).toInt64) ||| (p1.toInt64)) <<< ((16 : Int32) &&& 0x3f).toInt64) ||| (p2.toInt64)) <<< ((16 : Int32) &&& 0x3f).toInt64) (p3.toInt64) 16 (by omega) (by omega)
  have se := own_shlN (((((((((0 : Int64) <<< ((16 : Int32) &&& 0x3f).toInt64) ||| (p0.toInt64)) <<< ((16 : Int32) &&& 0x3f).toInt64) ||| (p1.toInt64)) <<< ((16 : Int32) &&& 0x3f).toInt64) ||| (p2.toInt64)) <<< ((16 : Int32) &&& 0x3f).toInt64) ||| (p3.toInt64)) ((0 : Int32) &&& 0x3f).toInt64 0 (by decide)
  omega
theorem own_q4_16_1 (p0 p1 p2 p3 : Int32) (R : Int64) (h0 : 0 ≤ p0.toInt ∧ p0.toInt < 2 ^ 16) (h1 : 0 ≤ p1.toInt ∧ p1.toInt < 2 ^ 16) (h2 : 0 ≤ p2.toInt ∧ p2.toInt < 2 ^ 16) (h3 : 0 ≤ p3.toInt ∧ p3.toInt < 2 ^ 16) : ((R &&& (((1 : Int64) <<< (((16 : Int32) * 1) &&& 0x3f).toInt64) - (1 : Int64))) = ((((((((((((0 : Int64) <<< ((16 : Int32) &&& 0x3f).toInt64) ||| (p0.toInt64)) <<< ((16 : Int32) &&& 0x3f).toInt64) ||| (p1.toInt64)) <<< ((16 : Int32) &&& 0x3f).toInt64) ||| (p2.toInt64)) <<< ((16 : Int32) &&& 0x3f).toInt64) ||| (p3.toInt64)) <<< ((0 : Int32) &&& 0x3f).toInt64).toUInt64 >>> (((0 : Int32) + ((16 : Int32) * ((4 : Int32) - 1))) &&& 0x3f).toInt64.toUInt64).toInt64)) ↔ R.toBitVec.toNat % 2 ^ 16 = p0.toInt.toNat * 2 ^ 0 := by
  have a := own_pn4_16 p0 p1 p2 p3 h0 h1 h2 h3
  rw [own_bvnat, own_maskN R _ 16 (by decide), own_ushN _ _ 48 (by decide), a]
  constructor <;> intro q <;> omega
theorem own_q4_16_2 (p0 p1 p2 p3 : Int32) (R : Int64) (h0 : 0 ≤ p0.toInt ∧ p0.toInt < 2 ^ 16) (h1 : 0 ≤ p1.toInt ∧ p1.toInt < 2 ^ 16) (h2 : 0 ≤ p2.toInt ∧ p2.toInt < 2 ^ 16) (h3 : 0 ≤ p3.toInt ∧ p3.toInt < 2 ^ 16) : ((R &&& (((1 : Int64) <<< (((16 : Int32) * 2) &&& 0x3f).toInt64) - (1 : Int64))) = ((((((((((((0 : Int64) <<< ((16 : Int32) &&& 0x3f).toInt64) ||| (p0.toInt64)) <<< ((16 : Int32) &&& 0x3f).toInt64) ||| (p1.toInt64)) <<< ((16 : Int32) &&& 0x3f).toInt64) ||| (p2.toInt64)) <<< ((16 : Int32) &&& 0x3f).toInt64) ||| (p3.toInt64)) <<< ((0 : Int32) &&& 0x3f).toInt64).toUInt64 >>> (((0 : Int32) + ((16 : Int32) * ((4 : Int32) - 2))) &&& 0x3f).toInt64.toUInt64).toInt64)) ↔ R.toBitVec.toNat % 2 ^ 32 = p0.toInt.toNat * 2 ^ 16 + p1.toInt.toNat * 2 ^ 0 := by
  have a := own_pn4_16 p0 p1 p2 p3 h0 h1 h2 h3
  rw [own_bvnat, own_maskN R _ 32 (by decide), own_ushN _ _ 32 (by decide), a]
  constructor <;> intro q <;> omega
theorem own_q4_16_3 (p0 p1 p2 p3 : Int32) (R : Int64) (h0 : 0 ≤ p0.toInt ∧ p0.toInt < 2 ^ 16) (h1 : 0 ≤ p1.toInt ∧ p1.toInt < 2 ^ 16) (h2 : 0 ≤ p2.toInt ∧ p2.toInt < 2 ^ 16) (h3 : 0 ≤ p3.toInt ∧ p3.toInt < 2 ^ 16) : ((R &&& (((1 : Int64) <<< (((16 : Int32) * 3) &&& 0x3f).toInt64) - (1 : Int64))) = ((((((((((((0 : Int64) <<< ((16 : Int32) &&& 0x3f).toInt64) ||| (p0.toInt64)) <<< ((16 : Int32) &&& 0x3f).toInt64) ||| (p1.toInt64)) <<< ((16 : Int32) &&& 0x3f).toInt64) ||| (p2.toInt64)) <<< ((16 : Int32) &&& 0x3f).toInt64) ||| (p3.toInt64)) <<< ((0 : Int32) &&& 0x3f).toInt64).toUInt64 >>> (((0 : Int32) + ((16 : Int32) * ((4 : Int32) - 3))) &&& 0x3f).toInt64.toUInt64).toInt64)) ↔ R.toBitVec.toNat % 2 ^ 48 = p0.toInt.toNat * 2 ^ 32 + p1.toInt.toNat * 2 ^ 16 + p2.toInt.toNat * 2 ^ 0 := by
  have a := own_pn4_16 p0 p1 p2 p3 h0 h1 h2 h3
  rw [own_bvnat, own_maskN R _ 48 (by decide), own_ushN _ _ 16 (by decide), a]
  constructor <;> intro q <;> omega
theorem own_end4_16 (p0 p1 p2 p3 x17 x18 x19 : Int32) (R : Int64) (h0 : 0 ≤ p0.toInt ∧ p0.toInt < 2 ^ 16) (h1 : 0 ≤ p1.toInt ∧ p1.toInt < 2 ^ 16) (h2 : 0 ≤ p2.toInt ∧ p2.toInt < 2 ^ 16) (h3 : 0 ≤ p3.toInt ∧ p3.toInt < 2 ^ 16) (k2 : 0 ≤ x19.toInt ∧ x19.toInt < 2 ^ 16) (k1 : 0 ≤ x18.toInt ∧ x18.toInt < 2 ^ 16) (k0 : 0 ≤ x17.toInt ∧ x17.toInt < 2 ^ 16) (hR : R.toBitVec.toNat % 2 ^ 48 = x19.toInt.toNat * 2 ^ 32 + x18.toInt.toNat * 2 ^ 16 + x17.toInt.toNat) (e : Int32) : Option.bind (f7_0 4 16 ((((((((((0 : Int64) <<< ((16 : Int32) &&& 0x3f).toInt64) ||| (p0.toInt64)) <<< ((16 : Int32) &&& 0x3f).toInt64) ||| (p1.toInt64)) <<< ((16 : Int32) &&& 0x3f).toInt64) ||| (p2.toInt64)) <<< ((16 : Int32) &&& 0x3f).toInt64) ||| (p3.toInt64)) <<< ((0 : Int32) &&& 0x3f).toInt64) 0 R) (fun v18 => (if v18 = e then (some (1 : Int32)) else (some (0 : Int32)))) = if (if x19 = p0 ∧ x18 = p1 ∧ x17 = p2 then 3 else (if x18 = p0 ∧ x17 = p1 then 2 else (if x17 = p0 then 1 else 0))) = e then some 1 else some 0 := by
  have r1 : R.toBitVec.toNat % 2 ^ 16 = x17.toInt.toNat * 2 ^ 0 := by omega
  have q1 : (R.toBitVec.toNat % 2 ^ 16 = p0.toInt.toNat * 2 ^ 0) ↔ (x17 = p0) := by
    clear  hR 
    rw [r1]; simp only [own_ei]
    constructor
    · intro q
      have e0 : x17.toInt.toNat = p0.toInt.toNat := by omega
      exact own_nn2 k0.1 h0.1 e0
    · intro e0; rw [e0]
  have r2 : R.toBitVec.toNat % 2 ^ 32 = x18.toInt.toNat * 2 ^ 16 + x17.toInt.toNat * 2 ^ 0 := by omega
  have q2 : (R.toBitVec.toNat % 2 ^ 32 = p0.toInt.toNat * 2 ^ 16 + p1.toInt.toNat * 2 ^ 0) ↔ (x18 = p0 ∧ x17 = p1) := by
    clear q1 hR r1
    rw [r2]; simp only [own_ei]
    constructor
    · intro q
      have e0 : x17.toInt.toNat = p1.toInt.toNat := by omega
      have e1 : x18.toInt.toNat = p0.toInt.toNat := by omega
      exact ⟨own_nn2 k1.1 h0.1 e1, own_nn2 k0.1 h1.1 e0⟩
    · rintro ⟨e0, e1⟩; rw [e0, e1]
  have r3 : R.toBitVec.toNat % 2 ^ 48 = x19.toInt.toNat * 2 ^ 32 + x18.toInt.toNat * 2 ^ 16 + x17.toInt.toNat * 2 ^ 0 := by omega
  have q3 : (R.toBitVec.toNat % 2 ^ 48 = p0.toInt.toNat * 2 ^ 32 + p1.toInt.toNat * 2 ^ 16 + p2.toInt.toNat * 2 ^ 0) ↔ (x19 = p0 ∧ x18 = p1 ∧ x17 = p2) := by
    clear q1 q2 hR r1 r2
    rw [r3]; simp only [own_ei]
    constructor
    · intro q
      have e0 : x17.toInt.toNat = p2.toInt.toNat := by omega
      have e1 : x18.toInt.toNat = p1.toInt.toNat := by omega
      have e2 : x19.toInt.toNat = p0.toInt.toNat := by omega
      exact ⟨own_nn2 k2.1 h0.1 e2, own_nn2 k1.1 h1.1 e1, own_nn2 k0.1 h2.1 e0⟩
    · rintro ⟨e0, e1, e2⟩; rw [e0, e1, e2]

  rw [own_st4_16]
  simp only [own_q4_16_1 p0 p1 p2 p3 R h0 h1 h2 h3, q1, own_q4_16_2 p0 p1 p2 p3 R h0 h1 h2 h3, q2, own_q4_16_3 p0 p1 p2 p3 R h0 h1 h2 h3, q3]
  repeat' split
  all_goals simp_all [Option.bind]
theorem own_and3 {a b c : Prop} [Decidable a] [Decidable b] [Decidable c] {α : Type} (X F : α) : (if a then (if b then (if c then X else F) else F) else F) = if a ∧ b ∧ c then X else F := by
  by_cases ha : a <;> by_cases hb : b <;> by_cases hc : c <;> simp [ha, hb, hc]
theorem own_and2 {a b : Prop} [Decidable a] [Decidable b] {α : Type} (X F : α) : (if a then (if b then X else F) else F) = if a ∧ b then X else F := by
  by_cases ha : a <;> by_cases hb : b <;> simp [ha, hb]
theorem own_78 (x m : Int32) (h : 0 ≤ x.toInt) (h2 : ¬ 255 < x) : 0 ≤ x.toInt ∧ x.toInt < 2 ^ 8 := by
  rw [Int32.lt_iff_toInt_lt, show (255 : Int32).toInt = 255 from rfl] at h2; omega
theorem own_f2_1 (p0 : Int32) : f2_0 (li [p0]) 1 = (if 255 < p0 then (f2_59 (li [p0]) 1 16) else (f2_59 (li [p0]) 1 8)) := rfl
theorem own_in1_8 (p0 : Int32) (h : ¬ 255 < p0) : ∃ fl, f2_0 (li [p0]) 1 = some (8, 1, 56, fl, ((((0 : Int64) <<< ((8 : Int32) &&& 0x3f).toInt64) ||| (p0.toInt64)) <<< ((56 : Int32) &&& 0x3f).toInt64), (((p0 &&& (255 : Int32)).toInt64) * (72340172838076673 : Int64))) := by
  obtain ⟨fl, e⟩ := own_fl1_8 p0
  refine ⟨fl, ?_⟩
  have e2 : f2_59 (li [p0]) 1 8 = some (8, 1, 56, fl, ((((0 : Int64) <<< ((8 : Int32) &&& 0x3f).toInt64) ||| (p0.toInt64)) <<< ((56 : Int32) &&& 0x3f).toInt64), (((p0 &&& (255 : Int32)).toInt64) * (72340172838076673 : Int64))) := by
    unfold f2_59
    rw [if_pos (by decide), show f4_0 (Nat.toInt32 1) ((64 : Int32) / 8) = 1 by decide, show (64 : Int32) - 8 * 1 = 56 by decide]
    exact e
  rw [own_f2_1]
  clear e
  generalize f2_59 (li [p0]) 1 8 = A8 at *
  generalize f2_59 (li [p0]) 1 16 = A16 at *
  generalize some (8, 1, 56, fl, ((((0 : Int64) <<< ((8 : Int32) &&& 0x3f).toInt64) ||| (p0.toInt64)) <<< ((56 : Int32) &&& 0x3f).toInt64), (((p0 &&& (255 : Int32)).toInt64) * (72340172838076673 : Int64))) = W at *
  repeat' split
  all_goals first | exact e2 | (exfalso; simp_all; done)
theorem own_443_1_8 (p0 x17 x18 x19 : Int32) (R : Int64) (h : ¬ 255 < p0) (h0 : 0 ≤ p0.toInt ∧ p0.toInt < 2 ^ 8) (k2 : 0 ≤ x19.toInt ∧ x19.toInt < 2 ^ 8) (k1 : 0 ≤ x18.toInt ∧ x18.toInt < 2 ^ 8) (k0 : 0 ≤ x17.toInt ∧ x17.toInt < 2 ^ 8) (hR : R.toBitVec.toNat % 2 ^ 24 = x19.toInt.toNat * 2 ^ 16 + x18.toInt.toNat * 2 ^ 8 + x17.toInt.toNat) (e : Int32) : f0_443 (li [p0]) R e = if 0 = e then some 1 else some 0 := by
  obtain ⟨fl, q⟩ := own_in1_8 p0 h
  unfold f0_443
  rw [q, Option.bind_some]
  exact own_end1_8 p0 x17 x18 x19 R h0 k2 k1 k0 hR e
theorem own_358_1_8 (p0 x10 x11 x17 x18 x19 : Int32) (R : Int64) (h : ¬ 255 < p0) (h0 : 0 ≤ p0.toInt ∧ p0.toInt < 2 ^ 8) (k2 : 0 ≤ x19.toInt ∧ x19.toInt < 2 ^ 8) (k1 : 0 ≤ x18.toInt ∧ x18.toInt < 2 ^ 8) (k0 : 0 ≤ x17.toInt ∧ x17.toInt < 2 ^ 8) (hR : R.toBitVec.toNat % 2 ^ 24 = x19.toInt.toNat * 2 ^ 16 + x18.toInt.toNat * 2 ^ 8 + x17.toInt.toNat) : f0_358 (li [p0]) 1 p0 x10 x11 x17 x18 x19 R = some 1 := by
  have w := own_443_1_8 p0 x17 x18 x19 R h h0 k2 k1 k0 hR
  unfold f0_358 f0_395 f0_421 f0_440
  simp only [w, show ((3 : Int32) < 1) = False by decide, show ((2 : Int32) < 1) = False by decide, show ((1 : Int32) < 1) = False by decide, if_true, if_false]
  try simp only [own_and3, own_and2]
  all_goals rfl
theorem own_220_1 (p0 x10 x11 x2 x5 : Int32) (x3 : Int64) (h : ¬ 255 < p0) (h0 : 0 ≤ p0.toInt ∧ p0.toInt < 2 ^ 8) : f0_220 (li [p0]) x2 x3 x5 1 p0 x10 x11 = some 1 := by
  have hm : ∀ z : Int32, 0 ≤ (z &&& 255).toInt ∧ (z &&& 255).toInt < 2 ^ 8 := fun z => own_andb z 255 8 (by omega) rfl
  unfold f0_220 f0_225
  rw [if_neg (by decide)]
  unfold f0_239
  rw [if_neg (by decide)]
  unfold f0_254 f0_280 f0_304 f0_330
  exact own_358_1_8 p0 x10 x11 _ _ _ _ h h0 (hm _) (hm _) (hm _) (own_read8 _ _ _ _ (hm _) (hm _) (hm _))
theorem own_in1_16 (p0 : Int32) (h : 255 < p0) : ∃ fl, f2_0 (li [p0]) 1 = some (16, 1, 48, fl, ((((0 : Int64) <<< ((16 : Int32) &&& 0x3f).toInt64) ||| (p0.toInt64)) <<< ((48 : Int32) &&& 0x3f).toInt64), (((p0 &&& (255 : Int32)).toInt64) * (72340172838076673 : Int64))) := by
  obtain ⟨fl, e⟩ := own_fl1_16 p0
  refine ⟨fl, ?_⟩
  have e2 : f2_59 (li [p0]) 1 16 = some (16, 1, 48, fl, ((((0 : Int64) <<< ((16 : Int32) &&& 0x3f).toInt64) ||| (p0.toInt64)) <<< ((48 : Int32) &&& 0x3f).toInt64), (((p0 &&& (255 : Int32)).toInt64) * (72340172838076673 : Int64))) := by
    unfold f2_59
    rw [if_pos (by decide), show f4_0 (Nat.toInt32 1) ((64 : Int32) / 16) = 1 by decide, show (64 : Int32) - 16 * 1 = 48 by decide]
    exact e
  rw [own_f2_1]
  clear e
  generalize f2_59 (li [p0]) 1 8 = A8 at *
  generalize f2_59 (li [p0]) 1 16 = A16 at *
  generalize some (16, 1, 48, fl, ((((0 : Int64) <<< ((16 : Int32) &&& 0x3f).toInt64) ||| (p0.toInt64)) <<< ((48 : Int32) &&& 0x3f).toInt64), (((p0 &&& (255 : Int32)).toInt64) * (72340172838076673 : Int64))) = W at *
  repeat' split
  all_goals first | exact e2 | (exfalso; simp_all; done)
theorem own_443_1_16 (p0 x17 x18 x19 : Int32) (R : Int64) (h : 255 < p0) (h0 : 0 ≤ p0.toInt ∧ p0.toInt < 2 ^ 16) (k2 : 0 ≤ x19.toInt ∧ x19.toInt < 2 ^ 16) (k1 : 0 ≤ x18.toInt ∧ x18.toInt < 2 ^ 16) (k0 : 0 ≤ x17.toInt ∧ x17.toInt < 2 ^ 16) (hR : R.toBitVec.toNat % 2 ^ 48 = x19.toInt.toNat * 2 ^ 32 + x18.toInt.toNat * 2 ^ 16 + x17.toInt.toNat) (e : Int32) : f0_443 (li [p0]) R e = if 0 = e then some 1 else some 0 := by
  obtain ⟨fl, q⟩ := own_in1_16 p0 h
  unfold f0_443
  rw [q, Option.bind_some]
  exact own_end1_16 p0 x17 x18 x19 R h0 k2 k1 k0 hR e
theorem own_358_1_16 (p0 x10 x11 x17 x18 x19 : Int32) (R : Int64) (h : 255 < p0) (h0 : 0 ≤ p0.toInt ∧ p0.toInt < 2 ^ 16) (k2 : 0 ≤ x19.toInt ∧ x19.toInt < 2 ^ 16) (k1 : 0 ≤ x18.toInt ∧ x18.toInt < 2 ^ 16) (k0 : 0 ≤ x17.toInt ∧ x17.toInt < 2 ^ 16) (hR : R.toBitVec.toNat % 2 ^ 48 = x19.toInt.toNat * 2 ^ 32 + x18.toInt.toNat * 2 ^ 16 + x17.toInt.toNat) : f0_358 (li [p0]) 1 p0 x10 x11 x17 x18 x19 R = some 1 := by
  have w := own_443_1_16 p0 x17 x18 x19 R h h0 k2 k1 k0 hR
  unfold f0_358 f0_395 f0_421 f0_440
  simp only [w, show ((3 : Int32) < 1) = False by decide, show ((2 : Int32) < 1) = False by decide, show ((1 : Int32) < 1) = False by decide, if_true, if_false]
  try simp only [own_and3, own_and2]
  all_goals rfl
theorem own_224_1 (p0 x10 x11 x2 x5 : Int32) (x3 : Int64) (h : 255 < p0) (h0 : 0 ≤ p0.toInt ∧ p0.toInt < 2 ^ 16) : f0_224 (li [p0]) x2 x3 x5 1 p0 x10 x11 = some 1 := by
  have hm : ∀ z : Int32, 0 ≤ (z &&& 65535).toInt ∧ (z &&& 65535).toInt < 2 ^ 16 := fun z => own_andb z 65535 16 (by omega) rfl
  unfold f0_224 f0_225
  rw [if_pos rfl]
  unfold f0_239
  rw [if_pos rfl]
  unfold f0_254 f0_280 f0_304 f0_330
  exact own_358_1_16 p0 x10 x11 _ _ _ _ h h0 (hm _) (hm _) (hm _) (own_read16 _ _ _ _ (hm _) (hm _) (hm _))
theorem own_170_1 (p0 p1 p2 p3 x2 x5 : Int32) (x3 : Int64) (h0 : 0 ≤ p0.toInt ∧ p0.toInt < 65536) (h1 : 0 ≤ p1.toInt ∧ p1.toInt < 65536) (h2 : 0 ≤ p2.toInt ∧ p2.toInt < 65536) (h3 : 0 ≤ p3.toInt ∧ p3.toInt < 65536) : f0_170 (li [p0]) x2 x3 x5 1 p0 p1 p2 p3 = some 1 := by
  have lt2 : (((1 : Int32) < 2) = True) := by decide
  have lt3 : (((1 : Int32) < 3) = True) := by decide
  have lt4 : (((1 : Int32) < 4) = True) := by decide
  have w16 : (255 < p0) → f0_224 (li [p0]) x2 x3 x5 1 p0 p1 p2 = some 1 := fun h => own_224_1 p0 p1 p2 x2 x5 x3 h h0
  have w8 : (¬ 255 < p0) → f0_220 (li [p0]) x2 x3 x5 1 p0 p1 p2 = some 1 := fun h => own_220_1 p0 p1 p2 x2 x5 x3 h (own_78 _ 0 h0.1 h)
  unfold f0_170 f0_192 f0_206
  simp only [lt2, lt3, lt4, if_true, if_false]
  generalize f0_224 (li [p0]) x2 x3 x5 1 p0 p1 p2 = A16 at *
  generalize f0_220 (li [p0]) x2 x3 x5 1 p0 p1 p2 = A8 at *
  clear h0 h1 h2 h3
  repeat' split
  all_goals first | exact w8 (by simp_all; done) | exact w16 (by simp_all; done)
theorem own_f2_2 (p0 p1 : Int32) : f2_0 (li [p0, p1]) 2 = (if 255 < p0 then (if 255 < p1 then (f2_59 (li [p0, p1]) 2 16) else (f2_59 (li [p0, p1]) 2 16)) else (if 255 < p1 then (f2_59 (li [p0, p1]) 2 16) else (f2_59 (li [p0, p1]) 2 8))) := rfl
theorem own_in2_8 (p0 p1 : Int32) (h : ¬ 255 < p0 ∧ ¬ 255 < p1) : ∃ fl, f2_0 (li [p0, p1]) 2 = some (8, 2, 48, fl, ((((((0 : Int64) <<< ((8 : Int32) &&& 0x3f).toInt64) ||| (p0.toInt64)) <<< ((8 : Int32) &&& 0x3f).toInt64) ||| (p1.toInt64)) <<< ((48 : Int32) &&& 0x3f).toInt64), (((p1 &&& (255 : Int32)).toInt64) * (72340172838076673 : Int64))) := by
  obtain ⟨fl, e⟩ := own_fl2_8 p0 p1
  refine ⟨fl, ?_⟩
  have e2 : f2_59 (li [p0, p1]) 2 8 = some (8, 2, 48, fl, ((((((0 : Int64) <<< ((8 : Int32) &&& 0x3f).toInt64) ||| (p0.toInt64)) <<< ((8 : Int32) &&& 0x3f).toInt64) ||| (p1.toInt64)) <<< ((48 : Int32) &&& 0x3f).toInt64), (((p1 &&& (255 : Int32)).toInt64) * (72340172838076673 : Int64))) := by
    unfold f2_59
    rw [if_pos (by decide), show f4_0 (Nat.toInt32 2) ((64 : Int32) / 8) = 2 by decide, show (64 : Int32) - 8 * 2 = 48 by decide]
    exact e
  rw [own_f2_2]
  clear e
  generalize f2_59 (li [p0, p1]) 2 8 = A8 at *
  generalize f2_59 (li [p0, p1]) 2 16 = A16 at *
  generalize some (8, 2, 48, fl, ((((((0 : Int64) <<< ((8 : Int32) &&& 0x3f).toInt64) ||| (p0.toInt64)) <<< ((8 : Int32) &&& 0x3f).toInt64) ||| (p1.toInt64)) <<< ((48 : Int32) &&& 0x3f).toInt64), (((p1 &&& (255 : Int32)).toInt64) * (72340172838076673 : Int64))) = W at *
  repeat' split
  all_goals first | exact e2 | (exfalso; simp_all; done)
theorem own_443_2_8 (p0 p1 x17 x18 x19 : Int32) (R : Int64) (h : ¬ 255 < p0 ∧ ¬ 255 < p1) (h0 : 0 ≤ p0.toInt ∧ p0.toInt < 2 ^ 8) (h1 : 0 ≤ p1.toInt ∧ p1.toInt < 2 ^ 8) (k2 : 0 ≤ x19.toInt ∧ x19.toInt < 2 ^ 8) (k1 : 0 ≤ x18.toInt ∧ x18.toInt < 2 ^ 8) (k0 : 0 ≤ x17.toInt ∧ x17.toInt < 2 ^ 8) (hR : R.toBitVec.toNat % 2 ^ 24 = x19.toInt.toNat * 2 ^ 16 + x18.toInt.toNat * 2 ^ 8 + x17.toInt.toNat) (e : Int32) : f0_443a (li [p0, p1]) R e = if (if x17 = p0 then 1 else 0) = e then some 1 else some 0 := by
  obtain ⟨fl, q⟩ := own_in2_8 p0 p1 h
  unfold f0_443a
  rw [q, Option.bind_some]
  exact own_end2_8 p0 p1 x17 x18 x19 R h0 h1 k2 k1 k0 hR e
theorem own_358_2_8 (p0 p1 x11 x17 x18 x19 : Int32) (R : Int64) (h : ¬ 255 < p0 ∧ ¬ 255 < p1) (h0 : 0 ≤ p0.toInt ∧ p0.toInt < 2 ^ 8) (h1 : 0 ≤ p1.toInt ∧ p1.toInt < 2 ^ 8) (k2 : 0 ≤ x19.toInt ∧ x19.toInt < 2 ^ 8) (k1 : 0 ≤ x18.toInt ∧ x18.toInt < 2 ^ 8) (k0 : 0 ≤ x17.toInt ∧ x17.toInt < 2 ^ 8) (hR : R.toBitVec.toNat % 2 ^ 24 = x19.toInt.toNat * 2 ^ 16 + x18.toInt.toNat * 2 ^ 8 + x17.toInt.toNat) : f0_358a (li [p0, p1]) 2 p0 p1 x11 x17 x18 x19 R = some 1 := by
  have w := own_443_2_8 p0 p1 x17 x18 x19 R h h0 h1 k2 k1 k0 hR
  unfold f0_358a f0_395a f0_421a f0_440a
  simp only [w, show ((3 : Int32) < 2) = False by decide, show ((2 : Int32) < 2) = False by decide, show ((1 : Int32) < 2) = True by decide, if_true, if_false]
  try simp only [own_and3, own_and2]
  by_cases q1 : x17 = p0
  · simp only [if_pos q1]; rfl
  simp only [if_neg q1, ]; rfl
theorem own_220_2 (p0 p1 x11 x2 x5 : Int32) (x3 : Int64) (h : ¬ 255 < p0 ∧ ¬ 255 < p1) (h0 : 0 ≤ p0.toInt ∧ p0.toInt < 2 ^ 8) (h1 : 0 ≤ p1.toInt ∧ p1.toInt < 2 ^ 8) : f0_220a (li [p0, p1]) x2 x3 x5 2 p0 p1 x11 = some 1 := by
  have hm : ∀ z : Int32, 0 ≤ (z &&& 255).toInt ∧ (z &&& 255).toInt < 2 ^ 8 := fun z => own_andb z 255 8 (by omega) rfl
  unfold f0_220a f0_225a
  rw [if_neg (by decide)]
  unfold f0_239a
  rw [if_neg (by decide)]
  unfold f0_254a f0_280a f0_304a f0_330a
  exact own_358_2_8 p0 p1 x11 _ _ _ _ h h0 h1 (hm _) (hm _) (hm _) (own_read8 _ _ _ _ (hm _) (hm _) (hm _))
theorem own_in2_16 (p0 p1 : Int32) (h : 255 < p0 ∨ 255 < p1) : ∃ fl, f2_0 (li [p0, p1]) 2 = some (16, 2, 32, fl, ((((((0 : Int64) <<< ((16 : Int32) &&& 0x3f).toInt64) ||| (p0.toInt64)) <<< ((16 : Int32) &&& 0x3f).toInt64) ||| (p1.toInt64)) <<< ((32 : Int32) &&& 0x3f).toInt64), (((p1 &&& (255 : Int32)).toInt64) * (72340172838076673 : Int64))) := by
  obtain ⟨fl, e⟩ := own_fl2_16 p0 p1
  refine ⟨fl, ?_⟩
  have e2 : f2_59 (li [p0, p1]) 2 16 = some (16, 2, 32, fl, ((((((0 : Int64) <<< ((16 : Int32) &&& 0x3f).toInt64) ||| (p0.toInt64)) <<< ((16 : Int32) &&& 0x3f).toInt64) ||| (p1.toInt64)) <<< ((32 : Int32) &&& 0x3f).toInt64), (((p1 &&& (255 : Int32)).toInt64) * (72340172838076673 : Int64))) := by
    unfold f2_59
    rw [if_pos (by decide), show f4_0 (Nat.toInt32 2) ((64 : Int32) / 16) = 2 by decide, show (64 : Int32) - 16 * 2 = 32 by decide]
    exact e
  rw [own_f2_2]
  clear e
  generalize f2_59 (li [p0, p1]) 2 8 = A8 at *
  generalize f2_59 (li [p0, p1]) 2 16 = A16 at *
  generalize some (16, 2, 32, fl, ((((((0 : Int64) <<< ((16 : Int32) &&& 0x3f).toInt64) ||| (p0.toInt64)) <<< ((16 : Int32) &&& 0x3f).toInt64) ||| (p1.toInt64)) <<< ((32 : Int32) &&& 0x3f).toInt64), (((p1 &&& (255 : Int32)).toInt64) * (72340172838076673 : Int64))) = W at *
  repeat' split
  all_goals first | exact e2 | (exfalso; simp_all; done)
theorem own_443_2_16 (p0 p1 x17 x18 x19 : Int32) (R : Int64) (h : 255 < p0 ∨ 255 < p1) (h0 : 0 ≤ p0.toInt ∧ p0.toInt < 2 ^ 16) (h1 : 0 ≤ p1.toInt ∧ p1.toInt < 2 ^ 16) (k2 : 0 ≤ x19.toInt ∧ x19.toInt < 2 ^ 16) (k1 : 0 ≤ x18.toInt ∧ x18.toInt < 2 ^ 16) (k0 : 0 ≤ x17.toInt ∧ x17.toInt < 2 ^ 16) (hR : R.toBitVec.toNat % 2 ^ 48 = x19.toInt.toNat * 2 ^ 32 + x18.toInt.toNat * 2 ^ 16 + x17.toInt.toNat) (e : Int32) : f0_443a (li [p0, p1]) R e = if (if x17 = p0 then 1 else 0) = e then some 1 else some 0 := by
  obtain ⟨fl, q⟩ := own_in2_16 p0 p1 h
  unfold f0_443a
  rw [q, Option.bind_some]
  exact own_end2_16 p0 p1 x17 x18 x19 R h0 h1 k2 k1 k0 hR e
theorem own_358_2_16 (p0 p1 x11 x17 x18 x19 : Int32) (R : Int64) (h : 255 < p0 ∨ 255 < p1) (h0 : 0 ≤ p0.toInt ∧ p0.toInt < 2 ^ 16) (h1 : 0 ≤ p1.toInt ∧ p1.toInt < 2 ^ 16) (k2 : 0 ≤ x19.toInt ∧ x19.toInt < 2 ^ 16) (k1 : 0 ≤ x18.toInt ∧ x18.toInt < 2 ^ 16) (k0 : 0 ≤ x17.toInt ∧ x17.toInt < 2 ^ 16) (hR : R.toBitVec.toNat % 2 ^ 48 = x19.toInt.toNat * 2 ^ 32 + x18.toInt.toNat * 2 ^ 16 + x17.toInt.toNat) : f0_358a (li [p0, p1]) 2 p0 p1 x11 x17 x18 x19 R = some 1 := by
  have w := own_443_2_16 p0 p1 x17 x18 x19 R h h0 h1 k2 k1 k0 hR
  unfold f0_358a f0_395a f0_421a f0_440a
  simp only [w, show ((3 : Int32) < 2) = False by decide, show ((2 : Int32) < 2) = False by decide, show ((1 : Int32) < 2) = True by decide, if_true, if_false]
  try simp only [own_and3, own_and2]
  by_cases q1 : x17 = p0
  · simp only [if_pos q1]; rfl
  simp only [if_neg q1, ]; rfl
theorem own_224_2 (p0 p1 x11 x2 x5 : Int32) (x3 : Int64) (h : 255 < p0 ∨ 255 < p1) (h0 : 0 ≤ p0.toInt ∧ p0.toInt < 2 ^ 16) (h1 : 0 ≤ p1.toInt ∧ p1.toInt < 2 ^ 16) : f0_224a (li [p0, p1]) x2 x3 x5 2 p0 p1 x11 = some 1 := by
  have hm : ∀ z : Int32, 0 ≤ (z &&& 65535).toInt ∧ (z &&& 65535).toInt < 2 ^ 16 := fun z => own_andb z 65535 16 (by omega) rfl
  unfold f0_224a f0_225a
  rw [if_pos rfl]
  unfold f0_239a
  rw [if_pos rfl]
  unfold f0_254a f0_280a f0_304a f0_330a
  exact own_358_2_16 p0 p1 x11 _ _ _ _ h h0 h1 (hm _) (hm _) (hm _) (own_read16 _ _ _ _ (hm _) (hm _) (hm _))
theorem own_170_2 (p0 p1 p2 p3 x2 x5 : Int32) (x3 : Int64) (h0 : 0 ≤ p0.toInt ∧ p0.toInt < 65536) (h1 : 0 ≤ p1.toInt ∧ p1.toInt < 65536) (h2 : 0 ≤ p2.toInt ∧ p2.toInt < 65536) (h3 : 0 ≤ p3.toInt ∧ p3.toInt < 65536) : f0_170a (li [p0, p1]) x2 x3 x5 2 p0 p1 p2 p3 = some 1 := by
  have lt2 : (((2 : Int32) < 2) = False) := by decide
  have lt3 : (((2 : Int32) < 3) = True) := by decide
  have lt4 : (((2 : Int32) < 4) = True) := by decide
  have w16 : (255 < p0 ∨ 255 < p1) → f0_224a (li [p0, p1]) x2 x3 x5 2 p0 p1 p2 = some 1 := fun h => own_224_2 p0 p1 p2 x2 x5 x3 h h0 h1
  have w8 : (¬ 255 < p0 ∧ ¬ 255 < p1) → f0_220a (li [p0, p1]) x2 x3 x5 2 p0 p1 p2 = some 1 := fun h => own_220_2 p0 p1 p2 x2 x5 x3 h (own_78 _ 0 h0.1 h.1) (own_78 _ 0 h1.1 h.2)
  unfold f0_170a f0_192a f0_206a
  simp only [lt2, lt3, lt4, if_true, if_false]
  generalize f0_224a (li [p0, p1]) x2 x3 x5 2 p0 p1 p2 = A16 at *
  generalize f0_220a (li [p0, p1]) x2 x3 x5 2 p0 p1 p2 = A8 at *
  clear h0 h1 h2 h3
  repeat' split
  all_goals first | exact w8 (by simp_all; done) | exact w16 (by simp_all; done)
theorem own_f2_3 (p0 p1 p2 : Int32) : f2_0 (li [p0, p1, p2]) 3 = (if 255 < p0 then (if 255 < p1 then (if 255 < p2 then (f2_59 (li [p0, p1, p2]) 3 16) else (f2_59 (li [p0, p1, p2]) 3 16)) else (if 255 < p2 then (f2_59 (li [p0, p1, p2]) 3 16) else (f2_59 (li [p0, p1, p2]) 3 16))) else (if 255 < p1 then (if 255 < p2 then (f2_59 (li [p0, p1, p2]) 3 16) else (f2_59 (li [p0, p1, p2]) 3 16)) else (if 255 < p2 then (f2_59 (li [p0, p1, p2]) 3 16) else (f2_59 (li [p0, p1, p2]) 3 8)))) := rfl
theorem own_in3_8 (p0 p1 p2 : Int32) (h : ¬ 255 < p0 ∧ ¬ 255 < p1 ∧ ¬ 255 < p2) : ∃ fl, f2_0 (li [p0, p1, p2]) 3 = some (8, 3, 40, fl, ((((((((0 : Int64) <<< ((8 : Int32) &&& 0x3f).toInt64) ||| (p0.toInt64)) <<< ((8 : Int32) &&& 0x3f).toInt64) ||| (p1.toInt64)) <<< ((8 : Int32) &&& 0x3f).toInt64) ||| (p2.toInt64)) <<< ((40 : Int32) &&& 0x3f).toInt64), (((p2 &&& (255 : Int32)).toInt64) * (72340172838076673 : Int64))) := by
  obtain ⟨fl, e⟩ := own_fl3_8 p0 p1 p2
  refine ⟨fl, ?_⟩
  have e2 : f2_59 (li [p0, p1, p2]) 3 8 = some (8, 3, 40, fl, ((((((((0 : Int64) <<< ((8 : Int32) &&& 0x3f).toInt64) ||| (p0.toInt64)) <<< ((8 : Int32) &&& 0x3f).toInt64) ||| (p1.toInt64)) <<< ((8 : Int32) &&& 0x3f).toInt64) ||| (p2.toInt64)) <<< ((40 : Int32) &&& 0x3f).toInt64), (((p2 &&& (255 : Int32)).toInt64) * (72340172838076673 : Int64))) := by
    unfold f2_59
    rw [if_pos (by decide), show f4_0 (Nat.toInt32 3) ((64 : Int32) / 8) = 3 by decide, show (64 : Int32) - 8 * 3 = 40 by decide]
    exact e
  rw [own_f2_3]
  clear e
  generalize f2_59 (li [p0, p1, p2]) 3 8 = A8 at *
  generalize f2_59 (li [p0, p1, p2]) 3 16 = A16 at *
  generalize some (8, 3, 40, fl, ((((((((0 : Int64) <<< ((8 : Int32) &&& 0x3f).toInt64) ||| (p0.toInt64)) <<< ((8 : Int32) &&& 0x3f).toInt64) ||| (p1.toInt64)) <<< ((8 : Int32) &&& 0x3f).toInt64) ||| (p2.toInt64)) <<< ((40 : Int32) &&& 0x3f).toInt64), (((p2 &&& (255 : Int32)).toInt64) * (72340172838076673 : Int64))) = W at *
  repeat' split
  all_goals first | exact e2 | (exfalso; simp_all; done)
theorem own_443_3_8 (p0 p1 p2 x17 x18 x19 : Int32) (R : Int64) (h : ¬ 255 < p0 ∧ ¬ 255 < p1 ∧ ¬ 255 < p2) (h0 : 0 ≤ p0.toInt ∧ p0.toInt < 2 ^ 8) (h1 : 0 ≤ p1.toInt ∧ p1.toInt < 2 ^ 8) (h2 : 0 ≤ p2.toInt ∧ p2.toInt < 2 ^ 8) (k2 : 0 ≤ x19.toInt ∧ x19.toInt < 2 ^ 8) (k1 : 0 ≤ x18.toInt ∧ x18.toInt < 2 ^ 8) (k0 : 0 ≤ x17.toInt ∧ x17.toInt < 2 ^ 8) (hR : R.toBitVec.toNat % 2 ^ 24 = x19.toInt.toNat * 2 ^ 16 + x18.toInt.toNat * 2 ^ 8 + x17.toInt.toNat) (e : Int32) : f0_443b (li [p0, p1, p2]) R e = if (if x18 = p0 ∧ x17 = p1 then 2 else (if x17 = p0 then 1 else 0)) = e then some 1 else some 0 := by
  obtain ⟨fl, q⟩ := own_in3_8 p0 p1 p2 h
  unfold f0_443b
  rw [q, Option.bind_some]
  exact own_end3_8 p0 p1 p2 x17 x18 x19 R h0 h1 h2 k2 k1 k0 hR e
theorem own_358_3_8 (p0 p1 p2  x17 x18 x19 : Int32) (R : Int64) (h : ¬ 255 < p0 ∧ ¬ 255 < p1 ∧ ¬ 255 < p2) (h0 : 0 ≤ p0.toInt ∧ p0.toInt < 2 ^ 8) (h1 : 0 ≤ p1.toInt ∧ p1.toInt < 2 ^ 8) (h2 : 0 ≤ p2.toInt ∧ p2.toInt < 2 ^ 8) (k2 : 0 ≤ x19.toInt ∧ x19.toInt < 2 ^ 8) (k1 : 0 ≤ x18.toInt ∧ x18.toInt < 2 ^ 8) (k0 : 0 ≤ x17.toInt ∧ x17.toInt < 2 ^ 8) (hR : R.toBitVec.toNat % 2 ^ 24 = x19.toInt.toNat * 2 ^ 16 + x18.toInt.toNat * 2 ^ 8 + x17.toInt.toNat) : f0_358b (li [p0, p1, p2]) 3 p0 p1 p2 x17 x18 x19 R = some 1 := by
  have w := own_443_3_8 p0 p1 p2 x17 x18 x19 R h h0 h1 h2 k2 k1 k0 hR
  unfold f0_358b f0_395b f0_421b f0_440b
  simp only [w, show ((3 : Int32) < 3) = False by decide, show ((2 : Int32) < 3) = True by decide, show ((1 : Int32) < 3) = True by decide, if_true, if_false]
  try simp only [own_and3, own_and2]
  by_cases q2 : x18 = p0 ∧ x17 = p1
  · simp only [if_pos q2]; rfl
  by_cases q1 : x17 = p0
  · simp only [if_neg q2, if_pos q1]; rfl
  simp only [if_neg q2, if_neg q1, ]; rfl
theorem own_220_3 (p0 p1 p2  x2 x5 : Int32) (x3 : Int64) (h : ¬ 255 < p0 ∧ ¬ 255 < p1 ∧ ¬ 255 < p2) (h0 : 0 ≤ p0.toInt ∧ p0.toInt < 2 ^ 8) (h1 : 0 ≤ p1.toInt ∧ p1.toInt < 2 ^ 8) (h2 : 0 ≤ p2.toInt ∧ p2.toInt < 2 ^ 8) : f0_220b (li [p0, p1, p2]) x2 x3 x5 3 p0 p1 p2 = some 1 := by
  have hm : ∀ z : Int32, 0 ≤ (z &&& 255).toInt ∧ (z &&& 255).toInt < 2 ^ 8 := fun z => own_andb z 255 8 (by omega) rfl
  unfold f0_220b f0_225b
  rw [if_neg (by decide)]
  unfold f0_239b
  rw [if_neg (by decide)]
  unfold f0_254b f0_280b f0_304b f0_330b
  exact own_358_3_8 p0 p1 p2  _ _ _ _ h h0 h1 h2 (hm _) (hm _) (hm _) (own_read8 _ _ _ _ (hm _) (hm _) (hm _))
theorem own_in3_16 (p0 p1 p2 : Int32) (h : 255 < p0 ∨ 255 < p1 ∨ 255 < p2) : ∃ fl, f2_0 (li [p0, p1, p2]) 3 = some (16, 3, 16, fl, ((((((((0 : Int64) <<< ((16 : Int32) &&& 0x3f).toInt64) ||| (p0.toInt64)) <<< ((16 : Int32) &&& 0x3f).toInt64) ||| (p1.toInt64)) <<< ((16 : Int32) &&& 0x3f).toInt64) ||| (p2.toInt64)) <<< ((16 : Int32) &&& 0x3f).toInt64), (((p2 &&& (255 : Int32)).toInt64) * (72340172838076673 : Int64))) := by
  obtain ⟨fl, e⟩ := own_fl3_16 p0 p1 p2
  refine ⟨fl, ?_⟩
  have e2 : f2_59 (li [p0, p1, p2]) 3 16 = some (16, 3, 16, fl, ((((((((0 : Int64) <<< ((16 : Int32) &&& 0x3f).toInt64) ||| (p0.toInt64)) <<< ((16 : Int32) &&& 0x3f).toInt64) ||| (p1.toInt64)) <<< ((16 : Int32) &&& 0x3f).toInt64) ||| (p2.toInt64)) <<< ((16 : Int32) &&& 0x3f).toInt64), (((p2 &&& (255 : Int32)).toInt64) * (72340172838076673 : Int64))) := by
    unfold f2_59
    rw [if_pos (by decide), show f4_0 (Nat.toInt32 3) ((64 : Int32) / 16) = 3 by decide, show (64 : Int32) - 16 * 3 = 16 by decide]
    exact e
  rw [own_f2_3]
  clear e
  generalize f2_59 (li [p0, p1, p2]) 3 8 = A8 at *
  generalize f2_59 (li [p0, p1, p2]) 3 16 = A16 at *
  generalize some (16, 3, 16, fl, ((((((((0 : Int64) <<< ((16 : Int32) &&& 0x3f).toInt64) ||| (p0.toInt64)) <<< ((16 : Int32) &&& 0x3f).toInt64) ||| (p1.toInt64)) <<< ((16 : Int32) &&& 0x3f).toInt64) ||| (p2.toInt64)) <<< ((16 : Int32) &&& 0x3f).toInt64), (((p2 &&& (255 : Int32)).toInt64) * (72340172838076673 : Int64))) = W at *
  repeat' split
  all_goals first | exact e2 | (exfalso; simp_all; done)
theorem own_443_3_16 (p0 p1 p2 x17 x18 x19 : Int32) (R : Int64) (h : 255 < p0 ∨ 255 < p1 ∨ 255 < p2) (h0 : 0 ≤ p0.toInt ∧ p0.toInt < 2 ^ 16) (h1 : 0 ≤ p1.toInt ∧ p1.toInt < 2 ^ 16) (h2 : 0 ≤ p2.toInt ∧ p2.toInt < 2 ^ 16) (k2 : 0 ≤ x19.toInt ∧ x19.toInt < 2 ^ 16) (k1 : 0 ≤ x18.toInt ∧ x18.toInt < 2 ^ 16) (k0 : 0 ≤ x17.toInt ∧ x17.toInt < 2 ^ 16) (hR : R.toBitVec.toNat % 2 ^ 48 = x19.toInt.toNat * 2 ^ 32 + x18.toInt.toNat * 2 ^ 16 + x17.toInt.toNat) (e : Int32) : f0_443b (li [p0, p1, p2]) R e = if (if x18 = p0 ∧ x17 = p1 then 2 else (if x17 = p0 then 1 else 0)) = e then some 1 else some 0 := by
  obtain ⟨fl, q⟩ := own_in3_16 p0 p1 p2 h
  unfold f0_443b
  rw [q, Option.bind_some]
  exact own_end3_16 p0 p1 p2 x17 x18 x19 R h0 h1 h2 k2 k1 k0 hR e
theorem own_358_3_16 (p0 p1 p2  x17 x18 x19 : Int32) (R : Int64) (h : 255 < p0 ∨ 255 < p1 ∨ 255 < p2) (h0 : 0 ≤ p0.toInt ∧ p0.toInt < 2 ^ 16) (h1 : 0 ≤ p1.toInt ∧ p1.toInt < 2 ^ 16) (h2 : 0 ≤ p2.toInt ∧ p2.toInt < 2 ^ 16) (k2 : 0 ≤ x19.toInt ∧ x19.toInt < 2 ^ 16) (k1 : 0 ≤ x18.toInt ∧ x18.toInt < 2 ^ 16) (k0 : 0 ≤ x17.toInt ∧ x17.toInt < 2 ^ 16) (hR : R.toBitVec.toNat % 2 ^ 48 = x19.toInt.toNat * 2 ^ 32 + x18.toInt.toNat * 2 ^ 16 + x17.toInt.toNat) : f0_358b (li [p0, p1, p2]) 3 p0 p1 p2 x17 x18 x19 R = some 1 := by
  have w := own_443_3_16 p0 p1 p2 x17 x18 x19 R h h0 h1 h2 k2 k1 k0 hR
  unfold f0_358b f0_395b f0_421b f0_440b
  simp only [w, show ((3 : Int32) < 3) = False by decide, show ((2 : Int32) < 3) = True by decide, show ((1 : Int32) < 3) = True by decide, if_true, if_false]
  try simp only [own_and3, own_and2]
  by_cases q2 : x18 = p0 ∧ x17 = p1
  · simp only [if_pos q2]; rfl
  by_cases q1 : x17 = p0
  · simp only [if_neg q2, if_pos q1]; rfl
  simp only [if_neg q2, if_neg q1, ]; rfl
theorem own_224_3 (p0 p1 p2  x2 x5 : Int32) (x3 : Int64) (h : 255 < p0 ∨ 255 < p1 ∨ 255 < p2) (h0 : 0 ≤ p0.toInt ∧ p0.toInt < 2 ^ 16) (h1 : 0 ≤ p1.toInt ∧ p1.toInt < 2 ^ 16) (h2 : 0 ≤ p2.toInt ∧ p2.toInt < 2 ^ 16) : f0_224b (li [p0, p1, p2]) x2 x3 x5 3 p0 p1 p2 = some 1 := by
  have hm : ∀ z : Int32, 0 ≤ (z &&& 65535).toInt ∧ (z &&& 65535).toInt < 2 ^ 16 := fun z => own_andb z 65535 16 (by omega) rfl
  unfold f0_224b f0_225b
  rw [if_pos rfl]
  unfold f0_239b
  rw [if_pos rfl]
  unfold f0_254b f0_280b f0_304b f0_330b
  exact own_358_3_16 p0 p1 p2  _ _ _ _ h h0 h1 h2 (hm _) (hm _) (hm _) (own_read16 _ _ _ _ (hm _) (hm _) (hm _))
theorem own_170_3 (p0 p1 p2 p3 x2 x5 : Int32) (x3 : Int64) (h0 : 0 ≤ p0.toInt ∧ p0.toInt < 65536) (h1 : 0 ≤ p1.toInt ∧ p1.toInt < 65536) (h2 : 0 ≤ p2.toInt ∧ p2.toInt < 65536) (h3 : 0 ≤ p3.toInt ∧ p3.toInt < 65536) : f0_170b (li [p0, p1, p2]) x2 x3 x5 3 p0 p1 p2 p3 = some 1 := by
  have lt2 : (((3 : Int32) < 2) = False) := by decide
  have lt3 : (((3 : Int32) < 3) = False) := by decide
  have lt4 : (((3 : Int32) < 4) = True) := by decide
  have w16 : (255 < p0 ∨ 255 < p1 ∨ 255 < p2) → f0_224b (li [p0, p1, p2]) x2 x3 x5 3 p0 p1 p2 = some 1 := fun h => own_224_3 p0 p1 p2  x2 x5 x3 h h0 h1 h2
  have w8 : (¬ 255 < p0 ∧ ¬ 255 < p1 ∧ ¬ 255 < p2) → f0_220b (li [p0, p1, p2]) x2 x3 x5 3 p0 p1 p2 = some 1 := fun h => own_220_3 p0 p1 p2  x2 x5 x3 h (own_78 _ 0 h0.1 h.1) (own_78 _ 0 h1.1 h.2.1) (own_78 _ 0 h2.1 h.2.2)
  unfold f0_170b f0_192b f0_206b
  simp only [lt2, lt3, lt4, if_true, if_false]
  generalize f0_224b (li [p0, p1, p2]) x2 x3 x5 3 p0 p1 p2 = A16 at *
  generalize f0_220b (li [p0, p1, p2]) x2 x3 x5 3 p0 p1 p2 = A8 at *
  clear h0 h1 h2 h3
  repeat' split
  all_goals first | exact w8 (by simp_all; done) | exact w16 (by simp_all; done)
theorem own_f2_4 (p0 p1 p2 p3 : Int32) : f2_0 (li [p0, p1, p2, p3]) 4 = (if 255 < p0 then (if 255 < p1 then (if 255 < p2 then (if 255 < p3 then (f2_59 (li [p0, p1, p2, p3]) 4 16) else (f2_59 (li [p0, p1, p2, p3]) 4 16)) else (if 255 < p3 then (f2_59 (li [p0, p1, p2, p3]) 4 16) else (f2_59 (li [p0, p1, p2, p3]) 4 16))) else (if 255 < p2 then (if 255 < p3 then (f2_59 (li [p0, p1, p2, p3]) 4 16) else (f2_59 (li [p0, p1, p2, p3]) 4 16)) else (if 255 < p3 then (f2_59 (li [p0, p1, p2, p3]) 4 16) else (f2_59 (li [p0, p1, p2, p3]) 4 16)))) else (if 255 < p1 then (if 255 < p2 then (if 255 < p3 then (f2_59 (li [p0, p1, p2, p3]) 4 16) else (f2_59 (li [p0, p1, p2, p3]) 4 16)) else (if 255 < p3 then (f2_59 (li [p0, p1, p2, p3]) 4 16) else (f2_59 (li [p0, p1, p2, p3]) 4 16))) else (if 255 < p2 then (if 255 < p3 then (f2_59 (li [p0, p1, p2, p3]) 4 16) else (f2_59 (li [p0, p1, p2, p3]) 4 16)) else (if 255 < p3 then (f2_59 (li [p0, p1, p2, p3]) 4 16) else (f2_59 (li [p0, p1, p2, p3]) 4 8))))) := rfl
theorem own_in4_8 (p0 p1 p2 p3 : Int32) (h : ¬ 255 < p0 ∧ ¬ 255 < p1 ∧ ¬ 255 < p2 ∧ ¬ 255 < p3) : ∃ fl, f2_0 (li [p0, p1, p2, p3]) 4 = some (8, 4, 32, fl, ((((((((((0 : Int64) <<< ((8 : Int32) &&& 0x3f).toInt64) ||| (p0.toInt64)) <<< ((8 : Int32) &&& 0x3f).toInt64) ||| (p1.toInt64)) <<< ((8 : Int32) &&& 0x3f).toInt64) ||| (p2.toInt64)) <<< ((8 : Int32) &&& 0x3f).toInt64) ||| (p3.toInt64)) <<< ((32 : Int32) &&& 0x3f).toInt64), (((p3 &&& (255 : Int32)).toInt64) * (72340172838076673 : Int64))) := by
  obtain ⟨fl, e⟩ := own_fl4_8 p0 p1 p2 p3
  refine ⟨fl, ?_⟩
  have e2 : f2_59 (li [p0, p1, p2, p3]) 4 8 = some (8, 4, 32, fl, ((((((((((0 : Int64) <<< ((8 : Int32) &&& 0x3f).toInt64) ||| (p0.toInt64)) <<< ((8 : Int32) &&& 0x3f).toInt64) ||| (p1.toInt64)) <<< ((8 : Int32) &&& 0x3f).toInt64) ||| (p2.toInt64)) <<< ((8 : Int32) &&& 0x3f).toInt64) ||| (p3.toInt64)) <<< ((32 : Int32) &&& 0x3f).toInt64), (((p3 &&& (255 : Int32)).toInt64) * (72340172838076673 : Int64))) := by
    unfold f2_59
    rw [if_pos (by decide), show f4_0 (Nat.toInt32 4) ((64 : Int32) / 8) = 4 by decide, show (64 : Int32) - 8 * 4 = 32 by decide]
    exact e
  rw [own_f2_4]
  clear e
  generalize f2_59 (li [p0, p1, p2, p3]) 4 8 = A8 at *
  generalize f2_59 (li [p0, p1, p2, p3]) 4 16 = A16 at *
  generalize some (8, 4, 32, fl, ((((((((((0 : Int64) <<< ((8 : Int32) &&& 0x3f).toInt64) ||| (p0.toInt64)) <<< ((8 : Int32) &&& 0x3f).toInt64) ||| (p1.toInt64)) <<< ((8 : Int32) &&& 0x3f).toInt64) ||| (p2.toInt64)) <<< ((8 : Int32) &&& 0x3f).toInt64) ||| (p3.toInt64)) <<< ((32 : Int32) &&& 0x3f).toInt64), (((p3 &&& (255 : Int32)).toInt64) * (72340172838076673 : Int64))) = W at *
  repeat' split
  all_goals first | exact e2 | (exfalso; simp_all; done)
theorem own_443_4_8 (p0 p1 p2 p3 x17 x18 x19 : Int32) (R : Int64) (h : ¬ 255 < p0 ∧ ¬ 255 < p1 ∧ ¬ 255 < p2 ∧ ¬ 255 < p3) (h0 : 0 ≤ p0.toInt ∧ p0.toInt < 2 ^ 8) (h1 : 0 ≤ p1.toInt ∧ p1.toInt < 2 ^ 8) (h2 : 0 ≤ p2.toInt ∧ p2.toInt < 2 ^ 8) (h3 : 0 ≤ p3.toInt ∧ p3.toInt < 2 ^ 8) (k2 : 0 ≤ x19.toInt ∧ x19.toInt < 2 ^ 8) (k1 : 0 ≤ x18.toInt ∧ x18.toInt < 2 ^ 8) (k0 : 0 ≤ x17.toInt ∧ x17.toInt < 2 ^ 8) (hR : R.toBitVec.toNat % 2 ^ 24 = x19.toInt.toNat * 2 ^ 16 + x18.toInt.toNat * 2 ^ 8 + x17.toInt.toNat) (e : Int32) : f0_443c (li [p0, p1, p2, p3]) R e = if (if x19 = p0 ∧ x18 = p1 ∧ x17 = p2 then 3 else (if x18 = p0 ∧ x17 = p1 then 2 else (if x17 = p0 then 1 else 0))) = e then some 1 else some 0 := by
  obtain ⟨fl, q⟩ := own_in4_8 p0 p1 p2 p3 h
  unfold f0_443c
  rw [q, Option.bind_some]
  exact own_end4_8 p0 p1 p2 p3 x17 x18 x19 R h0 h1 h2 h3 k2 k1 k0 hR e
theorem own_358_4_8 (p0 p1 p2 p3  x17 x18 x19 : Int32) (R : Int64) (h : ¬ 255 < p0 ∧ ¬ 255 < p1 ∧ ¬ 255 < p2 ∧ ¬ 255 < p3) (h0 : 0 ≤ p0.toInt ∧ p0.toInt < 2 ^ 8) (h1 : 0 ≤ p1.toInt ∧ p1.toInt < 2 ^ 8) (h2 : 0 ≤ p2.toInt ∧ p2.toInt < 2 ^ 8) (h3 : 0 ≤ p3.toInt ∧ p3.toInt < 2 ^ 8) (k2 : 0 ≤ x19.toInt ∧ x19.toInt < 2 ^ 8) (k1 : 0 ≤ x18.toInt ∧ x18.toInt < 2 ^ 8) (k0 : 0 ≤ x17.toInt ∧ x17.toInt < 2 ^ 8) (hR : R.toBitVec.toNat % 2 ^ 24 = x19.toInt.toNat * 2 ^ 16 + x18.toInt.toNat * 2 ^ 8 + x17.toInt.toNat) : f0_358c (li [p0, p1, p2, p3]) 4 p0 p1 p2 x17 x18 x19 R = some 1 := by
  have w := own_443_4_8 p0 p1 p2 p3 x17 x18 x19 R h h0 h1 h2 h3 k2 k1 k0 hR
  unfold f0_358c f0_395c f0_421c f0_440c
  simp only [w, show ((3 : Int32) < 4) = True by decide, show ((2 : Int32) < 4) = True by decide, show ((1 : Int32) < 4) = True by decide, if_true, if_false]
  try simp only [own_and3, own_and2]
  by_cases q3 : x19 = p0 ∧ x18 = p1 ∧ x17 = p2
  · simp only [if_pos q3]; rfl
  by_cases q2 : x18 = p0 ∧ x17 = p1
  · simp only [if_neg q3, if_pos q2]; rfl
  by_cases q1 : x17 = p0
  · simp only [if_neg q3, if_neg q2, if_pos q1]; rfl
  simp only [if_neg q3, if_neg q2, if_neg q1, ]; rfl
theorem own_220_4 (p0 p1 p2 p3  x2 x5 : Int32) (x3 : Int64) (h : ¬ 255 < p0 ∧ ¬ 255 < p1 ∧ ¬ 255 < p2 ∧ ¬ 255 < p3) (h0 : 0 ≤ p0.toInt ∧ p0.toInt < 2 ^ 8) (h1 : 0 ≤ p1.toInt ∧ p1.toInt < 2 ^ 8) (h2 : 0 ≤ p2.toInt ∧ p2.toInt < 2 ^ 8) (h3 : 0 ≤ p3.toInt ∧ p3.toInt < 2 ^ 8) : f0_220c (li [p0, p1, p2, p3]) x2 x3 x5 4 p0 p1 p2 = some 1 := by
  have hm : ∀ z : Int32, 0 ≤ (z &&& 255).toInt ∧ (z &&& 255).toInt < 2 ^ 8 := fun z => own_andb z 255 8 (by omega) rfl
  unfold f0_220c f0_225c
  rw [if_neg (by decide)]
  unfold f0_239c
  rw [if_neg (by decide)]
  unfold f0_254c f0_280c f0_304c f0_330c
  exact own_358_4_8 p0 p1 p2 p3  _ _ _ _ h h0 h1 h2 h3 (hm _) (hm _) (hm _) (own_read8 _ _ _ _ (hm _) (hm _) (hm _))
theorem own_in4_16 (p0 p1 p2 p3 : Int32) (h : 255 < p0 ∨ 255 < p1 ∨ 255 < p2 ∨ 255 < p3) : ∃ fl, f2_0 (li [p0, p1, p2, p3]) 4 = some (16, 4, 0, fl, ((((((((((0 : Int64) <<< ((16 : Int32) &&& 0x3f).toInt64) ||| (p0.toInt64)) <<< ((16 : Int32) &&& 0x3f).toInt64) ||| (p1.toInt64)) <<< ((16 : Int32) &&& 0x3f).toInt64) ||| (p2.toInt64)) <<< ((16 : Int32) &&& 0x3f).toInt64) ||| (p3.toInt64)) <<< ((0 : Int32) &&& 0x3f).toInt64), (((p3 &&& (255 : Int32)).toInt64) * (72340172838076673 : Int64))) := by
  obtain ⟨fl, e⟩ := own_fl4_16 p0 p1 p2 p3
  refine ⟨fl, ?_⟩
  have e2 : f2_59 (li [p0, p1, p2, p3]) 4 16 = some (16, 4, 0, fl, ((((((((((0 : Int64) <<< ((16 : Int32) &&& 0x3f).toInt64) ||| (p0.toInt64)) <<< ((16 : Int32) &&& 0x3f).toInt64) ||| (p1.toInt64)) <<< ((16 : Int32) &&& 0x3f).toInt64) ||| (p2.toInt64)) <<< ((16 : Int32) &&& 0x3f).toInt64) ||| (p3.toInt64)) <<< ((0 : Int32) &&& 0x3f).toInt64), (((p3 &&& (255 : Int32)).toInt64) * (72340172838076673 : Int64))) := by
    unfold f2_59
    rw [if_pos (by decide), show f4_0 (Nat.toInt32 4) ((64 : Int32) / 16) = 4 by decide, show (64 : Int32) - 16 * 4 = 0 by decide]
    exact e
  rw [own_f2_4]
  clear e
  generalize f2_59 (li [p0, p1, p2, p3]) 4 8 = A8 at *
  generalize f2_59 (li [p0, p1, p2, p3]) 4 16 = A16 at *
  generalize some (16, 4, 0, fl, ((((((((((0 : Int64) <<< ((16 : Int32) &&& 0x3f).toInt64) ||| (p0.toInt64)) <<< ((16 : Int32) &&& 0x3f).toInt64) ||| (p1.toInt64)) <<< ((16 : Int32) &&& 0x3f).toInt64) ||| (p2.toInt64)) <<< ((16 : Int32) &&& 0x3f).toInt64) ||| (p3.toInt64)) <<< ((0 : Int32) &&& 0x3f).toInt64), (((p3 &&& (255 : Int32)).toInt64) * (72340172838076673 : Int64))) = W at *
  repeat' split
  all_goals first | exact e2 | (exfalso; simp_all; done)
theorem own_443_4_16 (p0 p1 p2 p3 x17 x18 x19 : Int32) (R : Int64) (h : 255 < p0 ∨ 255 < p1 ∨ 255 < p2 ∨ 255 < p3) (h0 : 0 ≤ p0.toInt ∧ p0.toInt < 2 ^ 16) (h1 : 0 ≤ p1.toInt ∧ p1.toInt < 2 ^ 16) (h2 : 0 ≤ p2.toInt ∧ p2.toInt < 2 ^ 16) (h3 : 0 ≤ p3.toInt ∧ p3.toInt < 2 ^ 16) (k2 : 0 ≤ x19.toInt ∧ x19.toInt < 2 ^ 16) (k1 : 0 ≤ x18.toInt ∧ x18.toInt < 2 ^ 16) (k0 : 0 ≤ x17.toInt ∧ x17.toInt < 2 ^ 16) (hR : R.toBitVec.toNat % 2 ^ 48 = x19.toInt.toNat * 2 ^ 32 + x18.toInt.toNat * 2 ^ 16 + x17.toInt.toNat) (e : Int32) : f0_443c (li [p0, p1, p2, p3]) R e = if (if x19 = p0 ∧ x18 = p1 ∧ x17 = p2 then 3 else (if x18 = p0 ∧ x17 = p1 then 2 else (if x17 = p0 then 1 else 0))) = e then some 1 else some 0 := by
  obtain ⟨fl, q⟩ := own_in4_16 p0 p1 p2 p3 h
  unfold f0_443c
  rw [q, Option.bind_some]
  exact own_end4_16 p0 p1 p2 p3 x17 x18 x19 R h0 h1 h2 h3 k2 k1 k0 hR e
theorem own_358_4_16 (p0 p1 p2 p3  x17 x18 x19 : Int32) (R : Int64) (h : 255 < p0 ∨ 255 < p1 ∨ 255 < p2 ∨ 255 < p3) (h0 : 0 ≤ p0.toInt ∧ p0.toInt < 2 ^ 16) (h1 : 0 ≤ p1.toInt ∧ p1.toInt < 2 ^ 16) (h2 : 0 ≤ p2.toInt ∧ p2.toInt < 2 ^ 16) (h3 : 0 ≤ p3.toInt ∧ p3.toInt < 2 ^ 16) (k2 : 0 ≤ x19.toInt ∧ x19.toInt < 2 ^ 16) (k1 : 0 ≤ x18.toInt ∧ x18.toInt < 2 ^ 16) (k0 : 0 ≤ x17.toInt ∧ x17.toInt < 2 ^ 16) (hR : R.toBitVec.toNat % 2 ^ 48 = x19.toInt.toNat * 2 ^ 32 + x18.toInt.toNat * 2 ^ 16 + x17.toInt.toNat) : f0_358c (li [p0, p1, p2, p3]) 4 p0 p1 p2 x17 x18 x19 R = some 1 := by
  have w := own_443_4_16 p0 p1 p2 p3 x17 x18 x19 R h h0 h1 h2 h3 k2 k1 k0 hR
  unfold f0_358c f0_395c f0_421c f0_440c
  simp only [w, show ((3 : Int32) < 4) = True by decide, show ((2 : Int32) < 4) = True by decide, show ((1 : Int32) < 4) = True by decide, if_true, if_false]
  try simp only [own_and3, own_and2]
  by_cases q3 : x19 = p0 ∧ x18 = p1 ∧ x17 = p2
  · simp only [if_pos q3]; rfl
  by_cases q2 : x18 = p0 ∧ x17 = p1
  · simp only [if_neg q3, if_pos q2]; rfl
  by_cases q1 : x17 = p0
  · simp only [if_neg q3, if_neg q2, if_pos q1]; rfl
  simp only [if_neg q3, if_neg q2, if_neg q1, ]; rfl
theorem own_224_4 (p0 p1 p2 p3  x2 x5 : Int32) (x3 : Int64) (h : 255 < p0 ∨ 255 < p1 ∨ 255 < p2 ∨ 255 < p3) (h0 : 0 ≤ p0.toInt ∧ p0.toInt < 2 ^ 16) (h1 : 0 ≤ p1.toInt ∧ p1.toInt < 2 ^ 16) (h2 : 0 ≤ p2.toInt ∧ p2.toInt < 2 ^ 16) (h3 : 0 ≤ p3.toInt ∧ p3.toInt < 2 ^ 16) : f0_224c (li [p0, p1, p2, p3]) x2 x3 x5 4 p0 p1 p2 = some 1 := by
  have hm : ∀ z : Int32, 0 ≤ (z &&& 65535).toInt ∧ (z &&& 65535).toInt < 2 ^ 16 := fun z => own_andb z 65535 16 (by omega) rfl
  unfold f0_224c f0_225c
  rw [if_pos rfl]
  unfold f0_239c
  rw [if_pos rfl]
  unfold f0_254c f0_280c f0_304c f0_330c
  exact own_358_4_16 p0 p1 p2 p3  _ _ _ _ h h0 h1 h2 h3 (hm _) (hm _) (hm _) (own_read16 _ _ _ _ (hm _) (hm _) (hm _))
theorem own_170_4 (p0 p1 p2 p3 x2 x5 : Int32) (x3 : Int64) (h0 : 0 ≤ p0.toInt ∧ p0.toInt < 65536) (h1 : 0 ≤ p1.toInt ∧ p1.toInt < 65536) (h2 : 0 ≤ p2.toInt ∧ p2.toInt < 65536) (h3 : 0 ≤ p3.toInt ∧ p3.toInt < 65536) : f0_170c (li [p0, p1, p2, p3]) x2 x3 x5 4 p0 p1 p2 p3 = some 1 := by
  have lt2 : (((4 : Int32) < 2) = False) := by decide
  have lt3 : (((4 : Int32) < 3) = False) := by decide
  have lt4 : (((4 : Int32) < 4) = False) := by decide
  have w16 : (255 < p0 ∨ 255 < p1 ∨ 255 < p2 ∨ 255 < p3) → f0_224c (li [p0, p1, p2, p3]) x2 x3 x5 4 p0 p1 p2 = some 1 := fun h => own_224_4 p0 p1 p2 p3  x2 x5 x3 h h0 h1 h2 h3
  have w8 : (¬ 255 < p0 ∧ ¬ 255 < p1 ∧ ¬ 255 < p2 ∧ ¬ 255 < p3) → f0_220c (li [p0, p1, p2, p3]) x2 x3 x5 4 p0 p1 p2 = some 1 := fun h => own_220_4 p0 p1 p2 p3  x2 x5 x3 h (own_78 _ 0 h0.1 h.1) (own_78 _ 0 h1.1 h.2.1) (own_78 _ 0 h2.1 h.2.2.1) (own_78 _ 0 h3.1 h.2.2.2)
  unfold f0_170c f0_192c f0_206c
  simp only [lt2, lt3, lt4, if_true, if_false]
  generalize f0_224c (li [p0, p1, p2, p3]) x2 x3 x5 4 p0 p1 p2 = A16 at *
  generalize f0_220c (li [p0, p1, p2, p3]) x2 x3 x5 4 p0 p1 p2 = A8 at *
  clear h0 h1 h2 h3
  repeat' split
  all_goals first | exact w8 (by simp_all; done) | exact w16 (by simp_all; done)
theorem own_x7 (x : Int32) : (1 : Int32) + (x &&& 3) = 1 ∨ (1 : Int32) + (x &&& 3) = 2 ∨ (1 : Int32) + (x &&& 3) = 3 ∨ (1 : Int32) + (x &&& 3) = 4 := by
  have a := own_andb x 3 2 (by omega) rfl
  have e : ((1 : Int32) + (x &&& 3)).toInt = 1 + (x &&& 3).toInt := by rw [Int32.toInt_add, show (1 : Int32).toInt = 1 from rfl, Int.bmod_def]; omega
  simp only [own_ei, e, show (1 : Int32).toInt = 1 from rfl, show (2 : Int32).toInt = 2 from rfl, show (3 : Int32).toInt = 3 from rfl, show (4 : Int32).toInt = 4 from rfl]
  omega
theorem own_37 (x0 x1 x2 : Int32) (x3 : Int64) (x5 x7 t : Int32) (h : x7 = 1 ∨ x7 = 2 ∨ x7 = 3 ∨ x7 = 4) : f0_37 x0 x1 x2 x3 x5 x7 t = some 1 := by
  unfold f0_37 f0_56 f0_73
  obtain ⟨a0, b0, c0⟩ := own_ch (x0 &&& t)
  obtain ⟨a1, b1, c1⟩ := own_ch (((x0.toUInt32 >>> ((16 : Int32) &&& 31).toUInt32).toInt32) &&& t)
  obtain ⟨a2, b2, c2⟩ := own_ch (x1 &&& t)
  obtain ⟨a3, b3, c3⟩ := own_ch (((x1.toUInt32 >>> ((16 : Int32) &&& 31).toUInt32).toInt32) &&& t)
  rw [c0, c1, c2, c3]
  rcases h with rfl | rfl | rfl | rfl
  · rw [if_pos rfl]; exact own_170_1 _ _ _ _ _ _ _ ⟨a0, b0⟩ ⟨a1, b1⟩ ⟨a2, b2⟩ ⟨a3, b3⟩
  · rw [if_neg (by decide), if_pos rfl]; exact own_170_2 _ _ _ _ _ _ _ ⟨a0, b0⟩ ⟨a1, b1⟩ ⟨a2, b2⟩ ⟨a3, b3⟩
  · rw [if_neg (by decide), if_neg (by decide), if_pos rfl]; exact own_170_3 _ _ _ _ _ _ _ ⟨a0, b0⟩ ⟨a1, b1⟩ ⟨a2, b2⟩ ⟨a3, b3⟩
  · rw [if_neg (by decide), if_neg (by decide), if_neg (by decide)]; exact own_170_4 _ _ _ _ _ _ _ ⟨a0, b0⟩ ⟨a1, b1⟩ ⟨a2, b2⟩ ⟨a3, b3⟩
theorem law_true (x0 x1 x2 : Int32) (x3 : Int64) (x5 : Int32) : f0_0 x0 x1 x2 x3 x5 = some 1 := by
  unfold f0_0 f0_12 f0_24
  simp only [own_37 _ _ _ _ _ _ _ (own_x7 _), ite_self]

theorem pn_0 : plainName "com/example/once_match/oncematch/PrefixRegisterStateAtEndPinLaw" = true := by first | (simp [plainName, overriddenIn]; done) | decide +kernel
theorem ef_0 (m : MethodId) (x0 : Int32) (x1 : Int32) (x2 : Int32) (x3 : Int64) (x5 : Int32) : entryFrame m #[(.int x0), (.int x1), (.int x2), (.long x3), (.int x5)] maxLocals = (mkF m 0 #[.val (.int x0), .val (.int x1), .val (.int x2), .val (.long x3), .second, .val (.int x5), .unset, .unset, .unset, .unset, .unset, .unset, .unset, .unset, .unset, .unset, .unset, .unset, .unset, .unset, .unset, .unset, .unset, .unset, .unset] []) := by first | (simp [entryFrame, mkF, argsToLocals, Value.category, maxLocals]; done) | rfl
def Qd0 (Z : State) (h0 : Heap) (n0 : Nat) (x0 : Int32) (x1 : Int32) (x2 : Int32) (x3 : Int64) (x5 : Int32) : Option Value → Heap → List Loc → Prop := (fun v h L => v = (some (.int (1 : Int32))) ∧ Fr n0 L)
set_option maxRecDepth 65536 in
set_option maxHeartbeats 40000000 in
theorem rm0 (l : Launch) (Z : State) (a0 : Array Value) (hw : ∀ d ∈ tables_1, d.before a0 Z = true) (ws : List Jvm.Cond) (x0 : Int32) (x1 : Int32) (x2 : Int32) (x3 : Int64) (x5 : Int32) (h0 : Heap) (n0 : Nat) (Z0 : n0 ≤ h0.size) :
    MetFree l x (head1 (Jvm.Cond.code x code maxLocals ret :: ws) room_1) (fun a U => a = #[(.int x0), (.int x1), (.int x2), (.long x3), (.int x5)] ∧ Z.Warmed39 U.vm ∧ U.heap = h0) (fun _ _ _ _ _ => True) (fun _ U o U' => ∃ v L, o = .returned v ∧ (Qd0 Z h0 n0 x0 x1 x2 x3 x5) v U'.heap L ∧ FrameEnd U o U' L room_1.cells room_1.slots) := by
  refine MetFree.of_bodySF (plainFor_of_name pn_0) hisR ?_
  intro p e s m args below meth c s₁ Bd hml0 hP hK
  obtain ⟨rfl, hZ, hh⟩ := hP
  have e0 : s₁.heap = h0 := by rw [← hh, Bd.state]; rfl
  exact OG.cast (ef_0 m x0 x1 x2 x3 x5) (b0_0 Bd.exec hZ hw Bd.bytes hml0 (findClass_of_methodNamed Bd.named) (name_of_methodNamed Bd.named Bd.method).1 Bd.returns Bd.notSynchronized x0 x1 x2 x3 x5 (1 : Int32) (Stand.of_body Bd) e0 (Fr.nil n0) Z0 (law_true _ _ _ _ _))
set_option maxRecDepth 65536 in
set_option maxHeartbeats 40000000 in
theorem comes_1 {Post : Tables → Env → Array Value → State → Outcome → State → Prop} (hpost : ∀ tb e args s v u, (limb_1_1.after args s (.returned v) u = true ∧ limb_1_2.after args s (.returned v) u = true ∧ True) → FrameEnd s (.returned v) u (Jvm.fieldLocs frame_1_writes args s ++ Jvm.arrayLocs frame_1_arrays args s ++ Jvm.staticLocs frame_1_statics s) 16 128 → Post tb e args s (.returned v) u) :
    ArmFor flags0 classFile x code maxLocals ret World_1 tables_1 room_1 Calls_1 rest_1 Pre_1 Post := by
  intro l hfl _ _ p e ha hc hk s m args below hf hA hF happ hP
  obtain ⟨hcalls, hrest, hpre⟩ := hP
  obtain ⟨-, -, -, hnamed, -, -, -, hat⟩ := (Spec.applies_iff hf).mp happ
  obtain ⟨hg, hn⟩ := and_e (Cond.before_iff.mp (show (Jvm.Cond.and given_1 narrow_1).before args s = true from hpre))
  obtain ⟨g0, r0⟩ := and_e hg
  obtain ⟨g1, r1⟩ := and_e r0
  obtain ⟨g2, r2⟩ := and_e r1
  obtain ⟨g3, r3⟩ := and_e r2
  obtain ⟨g4, r4⟩ := and_e r3
  obtain ⟨w0, w1, w2, w3, w4, rfl⟩ : ∃ w0 w1 w2 w3 w4 : Value, args = #[w0, w1, w2, w3, w4] := by
    have hs : args.size = 5 := by simpa [Cond.value, given_1] using g0
    obtain ⟨L⟩ := args
    match L, hs with
    | [w0, w1, w2, w3, w4], _ => exact ⟨w0, w1, w2, w3, w4, rfl⟩
  have hw := fun d (hd : d ∈ tables_1) => atoms_spec (ws := Jvm.Cond.code x code maxLocals ret :: tables_1) hat d (List.mem_cons_of_mem _ hd)
  obtain ⟨i0, ei0⟩ := is_v g1
  obtain rfl : w0 = (.int i0) := Option.some.inj ei0
  obtain ⟨i1, ei1⟩ := is_v g2
  obtain rfl : w1 = (.int i1) := Option.some.inj ei1
  obtain ⟨i2, ei2⟩ := is_v g3
  obtain rfl : w2 = (.int i2) := Option.some.inj ei2
  obtain ⟨i3, ei3⟩ := isL_v g4
  obtain rfl : w3 = (.long i3) := Option.some.inj ei3
  obtain ⟨i4, ei4⟩ := is_v r4
  obtain rfl : w4 = (.int i4) := Option.some.inj ei4
  obtain ⟨n, o, h1, h2, h3, _, L, rfl, ⟨rfl, N⟩, hq⟩ := rm0 l s _ hw tables_1 i0 i1 i2 i3 i4 s.heap s.heap.size (Nat.le_refl _) p e ha hc hk s m _ below hf ((Spec.applies_iff_loose hf).mp happ).1 ⟨rfl, State.Warmed39.refl s, rfl⟩ trivial
  exact ⟨n, _, h1, h2, h3, hpost _ _ _ _ _ _ ⟨Cond.after_iff.mpr rfl, Cond.after_iff.mpr (eq_i res_at (Term.int_eval (1)) rfl), trivial⟩ ⟨hq.1, hq.2.1, (hq.2.2.sift fun y hy => Or.inr (N y hy)).mono (by decide) (by decide)⟩⟩
theorem main_1_1 : Claimed_1_1 := comes_1 fun _ _ _ _ _ _ h hF => ⟨h.1, hF⟩
theorem main_1_2 : Claimed_1_2 := comes_1 fun _ _ _ _ _ _ h hF => ⟨h.2.1, hF⟩
end Jvm.Pilot.@@N@@
namespace Jvm.Pilot.@@N@@
open Jvm Jvm.ClassFile Sem Op Lib Jvm.Free Jvm.Stand Jvm.Pilot.@@N@@.Jvm.D
/-! MADE BY PROGRAM (witnessworld.py) out of the Statement's table words and the real class files: 14 classes; the members and pool entries that the words name. The judged class is class 1, her method 1. -/
namespace start1
open Jvm.ClassFile
def u (s : String) : CpInfo := .utf8 (stringToUtf16 s)
/-- a pool by its gaps: so many unusable entries, then the entry; so many at the end -/
def gap : Nat → List CpInfo → List CpInfo
  | 0, r => r
  | n + 1, r => .unusable :: gap n r
def poolList (es : List (Nat × CpInfo)) (last : Nat) : List CpInfo := es.foldr (fun e r => gap e.1 (e.2 :: r)) (gap last [])
def pool (es : List (Nat × CpInfo)) (last : Nat) : Array CpInfo := ⟨poolList es last⟩
def fileOf (pool : Array CpInfo) (this : Nat) (attrs : Array Attribute := #[]) (ms : Array MethodInfo := #[]) (fl : Nat := 33) (sup : Nat := 0) (ifs : Array Nat := #[]) (fds : Array FieldInfo := #[]) : ClassFile where
  minorVersion := 0
  majorVersion := 65
  constantPool := pool
  accessFlags := fl
  thisClass := this
  superClass := sup
  interfaces := ifs
  fields := fds
  methods := ms
  attributes := attrs
def plain (name : String) (sup : Option ClassId) : Class where
  name := name
  kind := .ordinary
  loader := none
  accessFlags := 33
  super := sup
  interfaces := #[]
  cf := none
  fields := #[]
  methods := #[]
  instanceTypes := #[]
  staticTypes := #[]
  resolved := #[]
  callSites := []
  init := .initialized
  statics := none
  mirror := none

def pool0 : Array CpInfo := pool [(5, u "<init>"), (0, u "()V"), (1, .class_ 10), (1, u "java/lang/Object")] 113

def k0c0 : Code := { maxStack := 0, maxLocals := 1, code := object_method_1_code, exceptionTable := #[], attributes := #[] }
def k0m0 : Method := { name := "<init>", desc := "()V", sig := { parameters := [], returnType := none }, accessFlags := 1, code := some k0c0 }
/-- java/lang/Object -/
def k0 : Class := { plain "java/lang/Object" none with
  accessFlags := 33
  interfaces := #[]
  cf := some (fileOf pool0 8 #[] #[{ accessFlags := 1, nameIndex := 5, descriptorIndex := 6, attributes := #[] }] 33 0 #[] #[])
  fields := #[]
  methods := #[k0m0]
  instanceTypes := #[]
  staticTypes := #[]
  resolved := Array.replicate 124 none
  statics := none }

def pool1 : Array CpInfo := pool [(2, .class_ 4), (1, u "java/lang/Object"), (0, u "<init>"), (0, u "()V"), (0, .integer 65535), (0, .methodref 9 10), (0, .class_ 11), (0, .nameAndType 12 13), (0, u "com/example/once_match/oncematch/PrefixRegisterStateAtEndPinLaw"), (0, u "pick"), (0, u "(IIIII)I"), (0, .class_ 15), (0, u "com/example/once_match/oncematch/PrefixRegister"), (0, .methodref 14 17), (0, .nameAndType 5 18), (0, u "([C)V"), (0, .methodref 14 20), (0, .nameAndType 21 22), (0, u "stateAtEnd"), (0, u "(J)I"), (2, u "law"), (0, u "(IIIJI)Z")] 5

def k1m0 : Method := { name := "<init>", desc := "()V", sig := { parameters := [], returnType := none }, accessFlags := 1, code := none }
def k1c1 : Code := { maxStack := 6, maxLocals := 25, code := code, exceptionTable := #[], attributes := #[] }
def k1m1 : Method := { name := "law", desc := "(IIIJI)Z", sig := { parameters := [.int, .int, .int, .long, .int], returnType := some .boolean }, accessFlags := 9, code := some k1c1 }
def k1c2 : Code := { maxStack := 2, maxLocals := 5, code := method_3_code, exceptionTable := #[], attributes := #[] }
def k1m2 : Method := { name := "pick", desc := "(IIIII)I", sig := { parameters := [.int, .int, .int, .int, .int], returnType := some .int }, accessFlags := 10, code := some k1c2 }
/-- com/example/once_match/oncematch/PrefixRegisterStateAtEndPinLaw -/
def k1 : Class := { plain "com/example/once_match/oncematch/PrefixRegisterStateAtEndPinLaw" (some 0) with
  accessFlags := 49
  interfaces := #[]
  cf := some (fileOf pool1 9 #[] #[{ accessFlags := 1, nameIndex := 5, descriptorIndex := 6, attributes := #[] }, { accessFlags := 9, nameIndex := 25, descriptorIndex := 26, attributes := #[] }, { accessFlags := 10, nameIndex := 12, descriptorIndex := 13, attributes := #[] }] 49 2 #[] #[])
  fields := #[]
  methods := #[k1m0, k1m1, k1m2]
  instanceTypes := #[]
  staticTypes := #[]
  resolved := Array.replicate 32 none
  statics := none }

def pool2 : Array CpInfo := pool [(5, .methodref 6 7), (0, .class_ 8), (0, .nameAndType 9 10), (0, u "java/lang/Object"), (0, u "<init>"), (0, u "()V"), (0, .class_ 12), (0, u "com/example/once_match/oncematch/PrefixRegister"), (0, .methodref 14 15), (0, .class_ 16), (0, .nameAndType 17 18), (0, u "java/lang/Math"), (0, u "min"), (0, u "(II)I"), (2, .fieldref 11 22), (0, .nameAndType 23 24), (0, u "lane"), (0, u "I"), (0, .fieldref 11 26), (0, .nameAndType 27 24), (0, u "length"), (0, .fieldref 11 29), (0, .nameAndType 30 24), (0, u "entry"), (0, .methodref 11 32), (0, .nameAndType 33 34), (0, u "takesValue"), (0, u "([CI)Z"), (0, .fieldref 11 36), (0, .nameAndType 37 24), (0, u "filler"), (0, .methodref 11 39), (0, .nameAndType 40 41), (0, u "lanes"), (0, u "([CI)J"), (0, .fieldref 11 43), (0, .nameAndType 44 45), (0, u "prefix"), (0, u "J"), (2, .long 72340172838076673), (1, .fieldref 11 51), (0, .nameAndType 52 45), (0, u "lasts"), (0, .fieldref 11 54), (0, .nameAndType 55 56), (0, u "before"), (0, u "[J"), (13, u "(J)I"), (2, u "MOST"), (2, u "([C)V"), (10, u "stateAtEnd")] 2

def k2c0 : Code := { maxStack := 5, maxLocals := 6, code := prog_29_method_1_code, exceptionTable := #[], attributes := #[] }
def k2m0 : Method := { name := "<init>", desc := "([C)V", sig := { parameters := [(.array .char)], returnType := none }, accessFlags := 0, code := some k2c0 }
def k2c1 : Code := { maxStack := 2, maxLocals := 4, code := prog_29_method_2_code, exceptionTable := #[], attributes := #[] }
def k2m1 : Method := { name := "takesValue", desc := "([CI)Z", sig := { parameters := [(.array .char), .int], returnType := some .boolean }, accessFlags := 2, code := some k2c1 }
def k2c2 : Code := { maxStack := 4, maxLocals := 7, code := prog_29_method_3_code, exceptionTable := #[], attributes := #[] }
def k2m2 : Method := { name := "lanes", desc := "([CI)J", sig := { parameters := [(.array .char), .int], returnType := some .long }, accessFlags := 2, code := some k2c2 }
def k2c3 : Code := { maxStack := 8, maxLocals := 4, code := prog_29_method_12_code, exceptionTable := #[], attributes := #[] }
def k2m3 : Method := { name := "stateAtEnd", desc := "(J)I", sig := { parameters := [.long], returnType := some .int }, accessFlags := 0, code := some k2c3 }
/-- com/example/once_match/oncematch/PrefixRegister -/
def k2 : Class := { plain "com/example/once_match/oncematch/PrefixRegister" (some 0) with
  accessFlags := 48
  interfaces := #[]
  cf := some (fileOf pool2 11 #[] #[{ accessFlags := 0, nameIndex := 9, descriptorIndex := 76, attributes := #[] }, { accessFlags := 2, nameIndex := 33, descriptorIndex := 34, attributes := #[] }, { accessFlags := 2, nameIndex := 40, descriptorIndex := 41, attributes := #[] }, { accessFlags := 0, nameIndex := 87, descriptorIndex := 70, attributes := #[] }] 48 6 #[] #[{ accessFlags := 24, nameIndex := 73, descriptorIndex := 24, attributes := #[] }, { accessFlags := 18, nameIndex := 27, descriptorIndex := 24, attributes := #[] }, { accessFlags := 18, nameIndex := 23, descriptorIndex := 24, attributes := #[] }, { accessFlags := 18, nameIndex := 30, descriptorIndex := 24, attributes := #[] }, { accessFlags := 18, nameIndex := 44, descriptorIndex := 45, attributes := #[] }, { accessFlags := 18, nameIndex := 37, descriptorIndex := 24, attributes := #[] }, { accessFlags := 18, nameIndex := 52, descriptorIndex := 45, attributes := #[] }, { accessFlags := 18, nameIndex := 55, descriptorIndex := 56, attributes := #[] }])
  fields := #[{ name := "MOST", type := .int, accessFlags := 24, slot := 0, constantValue := 0 }, { name := "length", type := .int, accessFlags := 18, slot := 0, constantValue := 0 }, { name := "lane", type := .int, accessFlags := 18, slot := 1, constantValue := 0 }, { name := "entry", type := .int, accessFlags := 18, slot := 2, constantValue := 0 }, { name := "prefix", type := .long, accessFlags := 18, slot := 3, constantValue := 0 }, { name := "filler", type := .int, accessFlags := 18, slot := 4, constantValue := 0 }, { name := "lasts", type := .long, accessFlags := 18, slot := 5, constantValue := 0 }, { name := "before", type := (.array .long), accessFlags := 18, slot := 6, constantValue := 0 }]
  methods := #[k2m0, k2m1, k2m2, k2m3]
  instanceTypes := #[.int, .int, .int, .long, .int, .long, (.array .long)]
  staticTypes := #[.int]
  resolved := Array.replicate 90 none
  statics := none }

def pool3 : Array CpInfo := pool [(1, .class_ 2), (0, u "java/lang/Math"), (1, .class_ 6), (1, u "java/lang/Object"), (0, u "<init>"), (0, u "()V"), (89, .class_ 100), (1, u "java/lang/Math$RandomNumberGeneratorHolder"), (71, u "negativeZeroFloatBits"), (0, u "J"), (2, u "negativeZeroDoubleBits"), (24, u "min"), (43, u "$assertionsDisabled"), (0, u "Z"), (88, u "(II)I"), (2, u "twoToTheDoubleScaleDown"), (0, u "D"), (4, u "twoToTheDoubleScaleUp"), (9, u "E"), (3, u "PI"), (2, u "TAU"), (2, u "DEGREES_TO_RADIANS"), (0, u "RADIANS_TO_DEGREES")] 94

def k3m0 : Method := { name := "<init>", desc := "()V", sig := { parameters := [], returnType := none }, accessFlags := 2, code := none }
def k3c1 : Code := { maxStack := 2, maxLocals := 2, code := jdk_29_method_69_code, exceptionTable := #[], attributes := #[] }
def k3m1 : Method := { name := "min", desc := "(II)I", sig := { parameters := [.int, .int], returnType := some .int }, accessFlags := 9, code := some k3c1 }
/-- java/lang/Math -/
def k3 : Class := { plain "java/lang/Math" (some 0) with
  accessFlags := 49
  interfaces := #[]
  cf := some (fileOf pool3 1 #[.nestMembers #[98]] #[{ accessFlags := 2, nameIndex := 7, descriptorIndex := 8, attributes := #[] }, { accessFlags := 9, nameIndex := 201, descriptorIndex := 335, attributes := #[] }] 49 4 #[] #[{ accessFlags := 25, nameIndex := 354, descriptorIndex := 339, attributes := #[] }, { accessFlags := 25, nameIndex := 358, descriptorIndex := 339, attributes := #[] }, { accessFlags := 25, nameIndex := 361, descriptorIndex := 339, attributes := #[] }, { accessFlags := 26, nameIndex := 364, descriptorIndex := 339, attributes := #[] }, { accessFlags := 26, nameIndex := 365, descriptorIndex := 339, attributes := #[] }, { accessFlags := 26, nameIndex := 172, descriptorIndex := 173, attributes := #[] }, { accessFlags := 26, nameIndex := 176, descriptorIndex := 173, attributes := #[] }, { accessFlags := 8, nameIndex := 344, descriptorIndex := 339, attributes := #[] }, { accessFlags := 8, nameIndex := 338, descriptorIndex := 339, attributes := #[] }, { accessFlags := 4120, nameIndex := 245, descriptorIndex := 246, attributes := #[] }])
  fields := #[{ name := "E", type := .double, accessFlags := 25, slot := 0, constantValue := 0 }, { name := "PI", type := .double, accessFlags := 25, slot := 1, constantValue := 0 }, { name := "TAU", type := .double, accessFlags := 25, slot := 2, constantValue := 0 }, { name := "DEGREES_TO_RADIANS", type := .double, accessFlags := 26, slot := 3, constantValue := 0 }, { name := "RADIANS_TO_DEGREES", type := .double, accessFlags := 26, slot := 4, constantValue := 0 }, { name := "negativeZeroFloatBits", type := .long, accessFlags := 26, slot := 5, constantValue := 0 }, { name := "negativeZeroDoubleBits", type := .long, accessFlags := 26, slot := 6, constantValue := 0 }, { name := "twoToTheDoubleScaleUp", type := .double, accessFlags := 8, slot := 7, constantValue := 0 }, { name := "twoToTheDoubleScaleDown", type := .double, accessFlags := 8, slot := 8, constantValue := 0 }, { name := "$assertionsDisabled", type := .boolean, accessFlags := 4120, slot := 9, constantValue := 0 }]
  methods := #[k3m0, k3m1]
  instanceTypes := #[]
  staticTypes := #[.double, .double, .double, .double, .double, .long, .long, .double, .double, .boolean]
  resolved := Array.replicate 460 none
  statics := none }

def pool4 : Array CpInfo := pool [(1, u "java/lang/Cloneable"), (0, .class_ 1), (0, u "java/lang/Object"), (0, .class_ 3)] 3

/-- java/lang/Cloneable -/
def k4 : Class := { plain "java/lang/Cloneable" (some 0) with
  accessFlags := 1537
  interfaces := #[]
  cf := some (fileOf pool4 2 #[] #[] 1537 4 #[] #[])
  fields := #[]
  methods := #[]
  instanceTypes := #[]
  staticTypes := #[]
  resolved := Array.replicate 8 none
  statics := none }

def pool5 : Array CpInfo := pool [(1, u "java/io/Serializable"), (0, .class_ 1), (0, u "java/lang/Object"), (0, .class_ 3)] 3

/-- java/io/Serializable -/
def k5 : Class := { plain "java/io/Serializable" (some 0) with
  accessFlags := 1537
  interfaces := #[]
  cf := some (fileOf pool5 2 #[] #[] 1537 4 #[] #[])
  fields := #[]
  methods := #[]
  instanceTypes := #[]
  staticTypes := #[]
  resolved := Array.replicate 8 none
  statics := none }

/-- the primitive byte -/
def k6 : Class := { plain "byte" none with kind := .primitive 'B', accessFlags := 0x411 }
/-- [B -/
def k7 : Class := { plain "[B" (some 0) with kind := .array 6 .byte, interfaces := #[4, 5], accessFlags := 1041 }

/-- the primitive char -/
def k8 : Class := { plain "char" none with kind := .primitive 'C', accessFlags := 0x411 }
/-- [C -/
def k9 : Class := { plain "[C" (some 0) with kind := .array 8 .char, interfaces := #[4, 5], accessFlags := 1041 }

/-- the primitive int -/
def k10 : Class := { plain "int" none with kind := .primitive 'I', accessFlags := 0x411 }
/-- [I -/
def k11 : Class := { plain "[I" (some 0) with kind := .array 10 .int, interfaces := #[4, 5], accessFlags := 1041 }

/-- the primitive long -/
def k12 : Class := { plain "long" none with kind := .primitive 'J', accessFlags := 0x411 }
/-- [J -/
def k13 : Class := { plain "[J" (some 0) with kind := .array 12 .long, interfaces := #[4, 5], accessFlags := 1041 }

def heap : Heap := #[]
def classes : Array Class := #[k0, k1, k2, k3, k4, k5, k6, k7, k8, k9, k10, k11, k12, k13]
def interned : List (Array UInt16 × Addr) := []
def slotsUsed : Nat := 0
def theMethod : MethodId := ⟨1, 1⟩
def args0 : Array Value := #[.int 5, .int 7, .int 9, .long 11, .int 3]
def aboutOver (below : List Frame) : State where
  vm := { classes := classes, interned := interned.toArray }
  heap := heap
  slotsUsed := slotsUsed
  threads := #[{ frames := .invoking theMethod args0 :: below }]
def below0 : List Frame := [.native { method := ⟨0, 0⟩, args := #[] }]
def about1 : State := aboutOver below0
def p0 : Program := .bare "" "" ""
def e0 : Env := launch0.env 0 0 0
theorem w_frames : about1.frames = Frame.invoking theMethod args0 :: below0 := rfl
set_option maxRecDepth 65536 in
theorem w_args : argsFit about1.vm theMethod args0 = true := by decide +kernel
set_option maxRecDepth 65536 in
theorem w_heap : heapFits about1 = true := by decide +kernel
set_option maxRecDepth 65536 in
theorem w_runnable : about1.curStatus? = some .runnable := by decide +kernel
set_option maxRecDepth 65536 in
theorem w_alone : about1.alone = true := by decide +kernel
set_option maxRecDepth 65536 in
theorem w_named : about1.methodNamed? x = some theMethod := by decide +kernel
set_option maxRecDepth 65536 in
theorem w_hears : about1.hears theMethod below0 = true := by decide +kernel
set_option maxRecDepth 65536 in
theorem w_ripe : about1.ripe theMethod args0 below0 = true := by decide +kernel
theorem w_running : about1.status = .running := rfl
set_option maxRecDepth 65536 in
theorem w_room : about1.hasRoom e0.platform room_1 = true :=
  launch0.hasRoom_least _ room_1 (by decide +kernel) (by decide +kernel) (by decide +kernel) (by decide +kernel) (by decide +kernel) (by decide +kernel)
theorem allAtoms_all (ts : List Jvm.Cond) (a : Array Jvm.Value) (st : Jvm.State) : (allAtoms ts).before a st = ts.all (fun c => c.before a st) := by
  induction ts with
  | nil => rfl
  | cons c t ih =>
    show (Jvm.Cond.and c (allAtoms t)).before a st = _
    rw [Jvm.Cond.before_and, ih, List.all_cons]
def words1 : List Jvm.Cond := Jvm.Cond.code x code maxLocals ret :: tables_1
/-- a 'code' word, met by the world's own term for the bytes: nothing is compared byte by byte -/
theorem code_word {y : MethodName} {bytes : ByteArray} {mx : Nat} {rt : Option FieldType} {a : Array Value} {s : State} {m : MethodId} {meth : Method} {c : Code} (h1 : s.methodNamed? y = some m) (h2 : s.vm.method? m = some meth) (h3 : meth.code = some c) (h4 : c.code = bytes)
    (h5 : (c.maxLocals == mx && c.exceptionTable.isEmpty && decide (c.maxStack ≤ mostOperands) && decide (meth.sig.returnType = rt) && !meth.locks && decide (parseMethodDescriptor y.desc = some meth.sig)) = true) : (Jvm.Cond.code y bytes mx rt).before a s = true := by
  simp only [Bool.and_eq_true, beq_iff_eq, Bool.not_eq_true', decide_eq_true_eq] at h5
  obtain ⟨⟨⟨⟨⟨g1, g2⟩, g3⟩, g4⟩, g5⟩, g6⟩ := h5
  simp [Cond.before, Cond.holds, Cond.value, h1, h2, h3, h4, g1, g2, g3, g4, g5, g6]
def isCode : Jvm.Cond → Bool
  | .code _ _ _ _ => true
  | _ => false
theorem all_split {L : List Jvm.Cond} {P : Jvm.Cond → Bool} (h1 : L.all (fun c => isCode c || P c) = true) (h2 : ∀ c ∈ L.filter isCode, P c = true) : L.all P = true := by
  refine List.all_eq_true.mpr fun c hc => ?_
  have h := List.all_eq_true.mp h1 c hc
  rcases Bool.eq_false_or_eq_true (isCode c) with hi | hi
  · exact h2 c (List.mem_filter.mpr ⟨hc, hi⟩)
  · simpa [hi] using h
set_option maxRecDepth 65536 in
theorem w_c0 : (Jvm.Cond.code x code maxLocals ret).before args0 about1 = true := code_word (m := ⟨1, 1⟩) (meth := k1m1) (c := k1c1) (by decide +kernel) rfl rfl rfl (by decide +kernel)
set_option maxRecDepth 65536 in
theorem w_c1 : (Jvm.Cond.code ({ cls := "com/example/once_match/oncematch/PrefixRegisterStateAtEndPinLaw", name := "pick", desc := "(IIIII)I" } : Jvm.MethodName) method_3_code (5 : Nat) (Option.some Jvm.ClassFile.FieldType.int)).before args0 about1 = true := code_word (m := ⟨1, 2⟩) (meth := k1m2) (c := k1c2) (by decide +kernel) rfl rfl rfl (by decide +kernel)
set_option maxRecDepth 65536 in
theorem w_c2 : (Jvm.Cond.code ({ cls := "com/example/once_match/oncematch/PrefixRegister", name := "<init>", desc := "([C)V" } : Jvm.MethodName) prog_29_method_1_code (6 : Nat) (Option.none : Option Jvm.ClassFile.FieldType)).before args0 about1 = true := code_word (m := ⟨2, 0⟩) (meth := k2m0) (c := k2c0) (by decide +kernel) rfl rfl rfl (by decide +kernel)
set_option maxRecDepth 65536 in
theorem w_c3 : (Jvm.Cond.code ({ cls := "java/lang/Object", name := "<init>", desc := "()V" } : Jvm.MethodName) object_method_1_code (1 : Nat) (Option.none : Option Jvm.ClassFile.FieldType)).before args0 about1 = true := code_word (m := ⟨0, 0⟩) (meth := k0m0) (c := k0c0) (by decide +kernel) rfl rfl rfl (by decide +kernel)
set_option maxRecDepth 65536 in
theorem w_c4 : (Jvm.Cond.code ({ cls := "java/lang/Math", name := "min", desc := "(II)I" } : Jvm.MethodName) jdk_29_method_69_code (2 : Nat) (Option.some Jvm.ClassFile.FieldType.int)).before args0 about1 = true := code_word (m := ⟨3, 1⟩) (meth := k3m1) (c := k3c1) (by decide +kernel) rfl rfl rfl (by decide +kernel)
set_option maxRecDepth 65536 in
theorem w_c5 : (Jvm.Cond.code ({ cls := "com/example/once_match/oncematch/PrefixRegister", name := "takesValue", desc := "([CI)Z" } : Jvm.MethodName) prog_29_method_2_code (4 : Nat) (Option.some Jvm.ClassFile.FieldType.boolean)).before args0 about1 = true := code_word (m := ⟨2, 1⟩) (meth := k2m1) (c := k2c1) (by decide +kernel) rfl rfl rfl (by decide +kernel)
set_option maxRecDepth 65536 in
theorem w_c6 : (Jvm.Cond.code ({ cls := "com/example/once_match/oncematch/PrefixRegister", name := "lanes", desc := "([CI)J" } : Jvm.MethodName) prog_29_method_3_code (7 : Nat) (Option.some Jvm.ClassFile.FieldType.long)).before args0 about1 = true := code_word (m := ⟨2, 2⟩) (meth := k2m2) (c := k2c2) (by decide +kernel) rfl rfl rfl (by decide +kernel)
set_option maxRecDepth 65536 in
theorem w_c7 : (Jvm.Cond.code ({ cls := "com/example/once_match/oncematch/PrefixRegister", name := "stateAtEnd", desc := "(J)I" } : Jvm.MethodName) prog_29_method_12_code (4 : Nat) (Option.some Jvm.ClassFile.FieldType.int)).before args0 about1 = true := code_word (m := ⟨2, 3⟩) (meth := k2m3) (c := k2c3) (by decide +kernel) rfl rfl rfl (by decide +kernel)
def codes1 : List Jvm.Cond := [Jvm.Cond.code x code maxLocals ret, Jvm.Cond.code ({ cls := "com/example/once_match/oncematch/PrefixRegisterStateAtEndPinLaw", name := "pick", desc := "(IIIII)I" } : Jvm.MethodName) method_3_code (5 : Nat) (Option.some Jvm.ClassFile.FieldType.int), Jvm.Cond.code ({ cls := "com/example/once_match/oncematch/PrefixRegister", name := "<init>", desc := "([C)V" } : Jvm.MethodName) prog_29_method_1_code (6 : Nat) (Option.none : Option Jvm.ClassFile.FieldType), Jvm.Cond.code ({ cls := "java/lang/Object", name := "<init>", desc := "()V" } : Jvm.MethodName) object_method_1_code (1 : Nat) (Option.none : Option Jvm.ClassFile.FieldType), Jvm.Cond.code ({ cls := "java/lang/Math", name := "min", desc := "(II)I" } : Jvm.MethodName) jdk_29_method_69_code (2 : Nat) (Option.some Jvm.ClassFile.FieldType.int), Jvm.Cond.code ({ cls := "com/example/once_match/oncematch/PrefixRegister", name := "takesValue", desc := "([CI)Z" } : Jvm.MethodName) prog_29_method_2_code (4 : Nat) (Option.some Jvm.ClassFile.FieldType.boolean), Jvm.Cond.code ({ cls := "com/example/once_match/oncematch/PrefixRegister", name := "lanes", desc := "([CI)J" } : Jvm.MethodName) prog_29_method_3_code (7 : Nat) (Option.some Jvm.ClassFile.FieldType.long), Jvm.Cond.code ({ cls := "com/example/once_match/oncematch/PrefixRegister", name := "stateAtEnd", desc := "(J)I" } : Jvm.MethodName) prog_29_method_12_code (4 : Nat) (Option.some Jvm.ClassFile.FieldType.int)]
set_option maxRecDepth 65536 in
theorem codes_eq : words1.filter isCode = codes1 := rfl
theorem w_codes : ∀ c ∈ words1.filter isCode, c.before args0 about1 = true := by
  rw [codes_eq]
  intro c hc
  simp only [codes1, List.mem_cons, List.not_mem_nil, or_false] at hc
  rcases hc with rfl | rfl | rfl | rfl | rfl | rfl | rfl | rfl
  · exact w_c0
  · exact w_c1
  · exact w_c2
  · exact w_c3
  · exact w_c4
  · exact w_c5
  · exact w_c6
  · exact w_c7
set_option maxRecDepth 65536 in
theorem w_t1 : (words1.take 24).all (fun c => isCode c || c.before args0 about1) = true := by decide +kernel
set_option maxRecDepth 65536 in
theorem w_t2 : ((words1.drop 24).take 24).all (fun c => isCode c || c.before args0 about1) = true := by decide +kernel
set_option maxRecDepth 65536 in
theorem w_t3 : ((words1.drop 24).drop 24).all (fun c => isCode c || c.before args0 about1) = true := by decide +kernel
theorem w_tables : (allAtoms (Jvm.Cond.code x code maxLocals ret :: tables_1)).before args0 about1 = true := by
  rw [allAtoms_all]
  show words1.all (fun c => c.before args0 about1) = true
  refine all_split ?_ w_codes
  rw [← List.take_append_drop 24 words1, List.all_append, w_t1, ← List.take_append_drop 24 (words1.drop 24), List.all_append, w_t2, w_t3]
  rfl
set_option maxRecDepth 65536 in
theorem w_case : (Jvm.Cond.and given_1 narrow_1).before args0 about1 = true := by decide +kernel
theorem w_applies : (headSpec (Jvm.Cond.code x code maxLocals ret :: tables_1) room_1).applies x e0.platform about1 = true :=
  (Spec.applies_iff w_frames).mpr ⟨w_running, w_runnable, w_alone, w_named, w_hears, w_ripe, w_room, w_tables⟩
theorem atStart : AtStart classFile x code maxLocals ret World_1 tables_1 room_1 Calls_1 rest_1 Pre_1 launch0 p0 e0 about1 theMethod args0 below0 :=
  ⟨lists_1, trivial, launch0.admits_env _ _ _, launch0.least_env, fairChoices_fair.cas, fairChoices_fair.clock, w_frames, w_args, w_heap, w_applies, trivial, trivial, w_case⟩
end start1
theorem witness_1 : WitnessClaimed_1 := ⟨start1.p0, start1.e0, start1.about1, start1.theMethod, start1.args0, start1.below0, start1.atStart⟩
end Jvm.Pilot.@@N@@
