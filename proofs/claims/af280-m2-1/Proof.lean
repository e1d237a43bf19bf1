import JvmDerived
import JvmDerived.Pilot.@@N@@Statement
import JvmDerived.Pilot.@@N@@Code
set_option linter.unusedVariables false
set_option linter.unusedSimpArgs false
namespace Jvm.RoadKit
open Sem ClassFile Op Lib Jvm.Stand Jvm.Free Jvm.LawKit
section New
variable {p : Program} {l : Launch} {e : Env} {R : Room} {s : State} {m : MethodId} {args : Array Value} {below : List Frame} {meth : Method} {c : Code} {T : State} {locs : List Loc} {cells slots : Nat}
theorem retI (X : Stand p l e R s m args below meth c T locs cells slots) (hx : p.tables.exec = Jvm.exec) {pc : Nat} {Ls : Array Slot} {z : Int32} {rest : List Value} (hret : meth.sig.returnType = some .int) (hd : decode c.code pc = .ok (.ireturn, 1)) {fs : List Frame}
    (hl : ∀ (f : JFrame) (acts : List Action), f.method = m → f.locked = none → f.entered = [] → (doReturn e (T.setTop f) acts (some (.int z))).1 = T.setFrames fs) : Steps p.tables e below (T.setTop (mkF m pc Ls (.int z :: rest))) (T.setFrames fs) := by
  have hm' : T.vm.method? m = some meth := X.method'
  have hn : narrow .int (.int z) = .int z := rfl
  show Steps p.tables e below (T.setTop { method := m, pc := pc, locals := Ls, stack := _ :: rest, locked := none }) _
  jvm_step X.here [X.here.top, hx, hd, hm', hret, hn]
  first | (intro acts; rw [hl _ acts rfl rfl rfl]) | rw [hl _ _ rfl rfl rfl]
  exact Steps.refl _
theorem retJ (X : Stand p l e R s m args below meth c T locs cells slots) (hx : p.tables.exec = Jvm.exec) {pc : Nat} {Ls : Array Slot} {z : Int64} {rest : List Value} (hret : meth.sig.returnType = some .long) (hd : decode c.code pc = .ok (.lreturn, 1)) {fs : List Frame}
    (hl : ∀ (f : JFrame) (acts : List Action), f.method = m → f.locked = none → f.entered = [] → (doReturn e (T.setTop f) acts (some (.long z))).1 = T.setFrames fs) : Steps p.tables e below (T.setTop (mkF m pc Ls (.long z :: rest))) (T.setFrames fs) := by
  have hm' : T.vm.method? m = some meth := X.method'
  have hn : narrow .long (.long z) = .long z := rfl
  show Steps p.tables e below (T.setTop { method := m, pc := pc, locals := Ls, stack := _ :: rest, locked := none }) _
  jvm_step X.here [X.here.top, hx, hd, hm', hret, hn]
  first | (intro acts; rw [hl _ acts rfl rfl rfl]) | rw [hl _ _ rfl rfl rfl]
  exact Steps.refl _
end New
end Jvm.RoadKit
namespace Jvm.Pilot.@@N@@
open Jvm Jvm.ClassFile Sem Op Lib Jvm.Free Jvm.Stand Jvm.LawKit Jvm.RoadKit Bundle Jvm.Pilot.@@N@@.Jvm.D
section Own
variable {p : Program} {l : Launch} {e : Env} {R : Room} {s : State} {m : MethodId} {args : Array Value} {below : List Frame} {meth : Method} {c : Code} {T : State} {locs : List Loc} {cells slots : Nat} {Q : Option Value → Heap → List Loc → Prop} {kc ks : Nat}
/-- from this frame the walk goes to its end, with Q -/
def OG (p : Program) (e : Env) (below : List Frame) (s : State) (Q : Option Value → Heap → List Loc → Prop) (kc ks : Nat) (T : State) (g : JFrame) : Prop :=
  ∃ s₂ o, Steps p.tables e below (T.setTop g) s₂ ∧ s₂.status = .running ∧ Ended s₂ below o ∧ ∃ v L, o = .returned v ∧ Q v s₂.heap L ∧ FrameEnd s o s₂ L kc ks
theorem OG.step {T' : State} {g g' : JFrame} (st : ∀ t, Steps p.tables e below (T'.setTop g') t → Steps p.tables e below (T.setTop g) t) (h : OG p e below s Q kc ks T' g') : OG p e below s Q kc ks T g := by
  obtain ⟨s₂, o, h1, h2⟩ := h
  exact ⟨s₂, o, st _ h1, h2⟩
theorem OG.cast {g g' : JFrame} (q : g = g') (h : OG p e below s Q kc ks T g') : OG p e below s Q kc ks T g := q ▸ h
theorem OG.mono {Q' : Option Value → Heap → List Loc → Prop} {g : JFrame} (hq : ∀ v h L, Q v h L → Q' v h L) (h : OG p e below s Q kc ks T g) : OG p e below s Q' kc ks T g := by
  obtain ⟨s₂, o, h1, h2, h3, v, L, h4, h5, h6⟩ := h
  exact ⟨s₂, o, h1, h2, h3, v, L, h4, hq _ _ _ h5, h6⟩
theorem o_iadd (X : Stand p l e R s m args below meth c T locs cells slots) (hx : p.tables.exec = Jvm.exec) {pc pc' : Nat} {Ls : Array Slot} {x y : Int32} {rest : List Value} (hd : decode c.code pc = .ok (.iadd, 1)) (hp : pc + 1 = pc') (h : OG p e below s Q kc ks T (mkF m pc' Ls (.int (x + y) :: rest))) : OG p e below s Q kc ks T (mkF m pc Ls (.int y :: .int x :: rest)) := by
  subst hp; exact OG.step (fun t q => XS.iadd X.here hx rfl hd rfl q) h
theorem o_isub (X : Stand p l e R s m args below meth c T locs cells slots) (hx : p.tables.exec = Jvm.exec) {pc pc' : Nat} {Ls : Array Slot} {x y : Int32} {rest : List Value} (hd : decode c.code pc = .ok (.isub, 1)) (hp : pc + 1 = pc') (h : OG p e below s Q kc ks T (mkF m pc' Ls (.int (x - y) :: rest))) : OG p e below s Q kc ks T (mkF m pc Ls (.int y :: .int x :: rest)) := by
  subst hp; exact OG.step (fun t q => XS.isub X.here hx rfl hd rfl q) h
theorem o_imul (X : Stand p l e R s m args below meth c T locs cells slots) (hx : p.tables.exec = Jvm.exec) {pc pc' : Nat} {Ls : Array Slot} {x y : Int32} {rest : List Value} (hd : decode c.code pc = .ok (.imul, 1)) (hp : pc + 1 = pc') (h : OG p e below s Q kc ks T (mkF m pc' Ls (.int (x * y) :: rest))) : OG p e below s Q kc ks T (mkF m pc Ls (.int y :: .int x :: rest)) := by
  subst hp; exact OG.step (fun t q => XS.imul X.here hx rfl hd rfl q) h
theorem o_iand (X : Stand p l e R s m args below meth c T locs cells slots) (hx : p.tables.exec = Jvm.exec) {pc pc' : Nat} {Ls : Array Slot} {x y : Int32} {rest : List Value} (hd : decode c.code pc = .ok (.iand, 1)) (hp : pc + 1 = pc') (h : OG p e below s Q kc ks T (mkF m pc' Ls (.int (x &&& y) :: rest))) : OG p e below s Q kc ks T (mkF m pc Ls (.int y :: .int x :: rest)) := by
  subst hp; exact OG.step (fun t q => XS.iand X.here hx rfl hd rfl q) h
theorem o_ior (X : Stand p l e R s m args below meth c T locs cells slots) (hx : p.tables.exec = Jvm.exec) {pc pc' : Nat} {Ls : Array Slot} {x y : Int32} {rest : List Value} (hd : decode c.code pc = .ok (.ior, 1)) (hp : pc + 1 = pc') (h : OG p e below s Q kc ks T (mkF m pc' Ls (.int (x ||| y) :: rest))) : OG p e below s Q kc ks T (mkF m pc Ls (.int y :: .int x :: rest)) := by
  subst hp; exact OG.step (fun t q => XS.ior X.here hx rfl hd rfl q) h
theorem o_ixor (X : Stand p l e R s m args below meth c T locs cells slots) (hx : p.tables.exec = Jvm.exec) {pc pc' : Nat} {Ls : Array Slot} {x y : Int32} {rest : List Value} (hd : decode c.code pc = .ok (.ixor, 1)) (hp : pc + 1 = pc') (h : OG p e below s Q kc ks T (mkF m pc' Ls (.int (x ^^^ y) :: rest))) : OG p e below s Q kc ks T (mkF m pc Ls (.int y :: .int x :: rest)) := by
  subst hp; exact OG.step (fun t q => XS.ixor X.here hx rfl hd rfl q) h
theorem o_ladd (X : Stand p l e R s m args below meth c T locs cells slots) (hx : p.tables.exec = Jvm.exec) {pc pc' : Nat} {Ls : Array Slot} {x y : Int64} {rest : List Value} (hd : decode c.code pc = .ok (.ladd, 1)) (hp : pc + 1 = pc') (h : OG p e below s Q kc ks T (mkF m pc' Ls (.long (x + y) :: rest))) : OG p e below s Q kc ks T (mkF m pc Ls (.long y :: .long x :: rest)) := by
  subst hp; exact OG.step (fun t q => XS.ladd X.here hx rfl hd rfl q) h
theorem o_lsub (X : Stand p l e R s m args below meth c T locs cells slots) (hx : p.tables.exec = Jvm.exec) {pc pc' : Nat} {Ls : Array Slot} {x y : Int64} {rest : List Value} (hd : decode c.code pc = .ok (.lsub, 1)) (hp : pc + 1 = pc') (h : OG p e below s Q kc ks T (mkF m pc' Ls (.long (x - y) :: rest))) : OG p e below s Q kc ks T (mkF m pc Ls (.long y :: .long x :: rest)) := by
  subst hp; exact OG.step (fun t q => XS.lsub X.here hx rfl hd rfl q) h
theorem o_lmul (X : Stand p l e R s m args below meth c T locs cells slots) (hx : p.tables.exec = Jvm.exec) {pc pc' : Nat} {Ls : Array Slot} {x y : Int64} {rest : List Value} (hd : decode c.code pc = .ok (.lmul, 1)) (hp : pc + 1 = pc') (h : OG p e below s Q kc ks T (mkF m pc' Ls (.long (x * y) :: rest))) : OG p e below s Q kc ks T (mkF m pc Ls (.long y :: .long x :: rest)) := by
  subst hp; exact OG.step (fun t q => XS.lmul X.here hx rfl hd rfl q) h
theorem o_land (X : Stand p l e R s m args below meth c T locs cells slots) (hx : p.tables.exec = Jvm.exec) {pc pc' : Nat} {Ls : Array Slot} {x y : Int64} {rest : List Value} (hd : decode c.code pc = .ok (.land, 1)) (hp : pc + 1 = pc') (h : OG p e below s Q kc ks T (mkF m pc' Ls (.long (x &&& y) :: rest))) : OG p e below s Q kc ks T (mkF m pc Ls (.long y :: .long x :: rest)) := by
  subst hp; exact OG.step (fun t q => XS.land X.here hx rfl hd rfl q) h
theorem o_lor (X : Stand p l e R s m args below meth c T locs cells slots) (hx : p.tables.exec = Jvm.exec) {pc pc' : Nat} {Ls : Array Slot} {x y : Int64} {rest : List Value} (hd : decode c.code pc = .ok (.lor, 1)) (hp : pc + 1 = pc') (h : OG p e below s Q kc ks T (mkF m pc' Ls (.long (x ||| y) :: rest))) : OG p e below s Q kc ks T (mkF m pc Ls (.long y :: .long x :: rest)) := by
  subst hp; exact OG.step (fun t q => XS.lor X.here hx rfl hd rfl q) h
theorem o_lxor (X : Stand p l e R s m args below meth c T locs cells slots) (hx : p.tables.exec = Jvm.exec) {pc pc' : Nat} {Ls : Array Slot} {x y : Int64} {rest : List Value} (hd : decode c.code pc = .ok (.lxor, 1)) (hp : pc + 1 = pc') (h : OG p e below s Q kc ks T (mkF m pc' Ls (.long (x ^^^ y) :: rest))) : OG p e below s Q kc ks T (mkF m pc Ls (.long y :: .long x :: rest)) := by
  subst hp; exact OG.step (fun t q => XS.lxor X.here hx rfl hd rfl q) h
theorem o_ishl (X : Stand p l e R s m args below meth c T locs cells slots) (hx : p.tables.exec = Jvm.exec) {pc pc' : Nat} {Ls : Array Slot} {x y : Int32} {rest : List Value} (hd : decode c.code pc = .ok (.ishl, 1)) (hp : pc + 1 = pc') (h : OG p e below s Q kc ks T (mkF m pc' Ls (.int (x <<< (y &&& 31)) :: rest))) : OG p e below s Q kc ks T (mkF m pc Ls (.int y :: .int x :: rest)) := by
  subst hp; exact OG.step (fun t q => XS.ishl X.here hx rfl hd rfl q) h
theorem o_ishr (X : Stand p l e R s m args below meth c T locs cells slots) (hx : p.tables.exec = Jvm.exec) {pc pc' : Nat} {Ls : Array Slot} {x y : Int32} {rest : List Value} (hd : decode c.code pc = .ok (.ishr, 1)) (hp : pc + 1 = pc') (h : OG p e below s Q kc ks T (mkF m pc' Ls (.int (x >>> (y &&& 31)) :: rest))) : OG p e below s Q kc ks T (mkF m pc Ls (.int y :: .int x :: rest)) := by
  subst hp; exact OG.step (fun t q => XS.ishr X.here hx rfl hd rfl q) h
theorem o_iushr (X : Stand p l e R s m args below meth c T locs cells slots) (hx : p.tables.exec = Jvm.exec) {pc pc' : Nat} {Ls : Array Slot} {x y : Int32} {rest : List Value} (hd : decode c.code pc = .ok (.iushr, 1)) (hp : pc + 1 = pc') (h : OG p e below s Q kc ks T (mkF m pc' Ls (.int ((x.toUInt32 >>> (y &&& 31).toUInt32).toInt32) :: rest))) : OG p e below s Q kc ks T (mkF m pc Ls (.int y :: .int x :: rest)) := by
  subst hp; exact OG.step (fun t q => XS.iushr X.here hx rfl hd rfl q) h
theorem o_lshl (X : Stand p l e R s m args below meth c T locs cells slots) (hx : p.tables.exec = Jvm.exec) {pc pc' : Nat} {Ls : Array Slot} {x : Int64} {y : Int32} {rest : List Value} (hd : decode c.code pc = .ok (.lshl, 1)) (hp : pc + 1 = pc') (h : OG p e below s Q kc ks T (mkF m pc' Ls (.long (x <<< (y &&& 0x3f).toInt64) :: rest))) : OG p e below s Q kc ks T (mkF m pc Ls (.int y :: .long x :: rest)) := by
  subst hp; exact OG.step (fun t q => XS.lshl X.here hx rfl hd rfl q) h
theorem o_lshr (X : Stand p l e R s m args below meth c T locs cells slots) (hx : p.tables.exec = Jvm.exec) {pc pc' : Nat} {Ls : Array Slot} {x : Int64} {y : Int32} {rest : List Value} (hd : decode c.code pc = .ok (.lshr, 1)) (hp : pc + 1 = pc') (h : OG p e below s Q kc ks T (mkF m pc' Ls (.long (x >>> (y &&& 0x3f).toInt64) :: rest))) : OG p e below s Q kc ks T (mkF m pc Ls (.int y :: .long x :: rest)) := by
  subst hp; exact OG.step (fun t q => XS.lshr X.here hx rfl hd rfl q) h
theorem o_lushr (X : Stand p l e R s m args below meth c T locs cells slots) (hx : p.tables.exec = Jvm.exec) {pc pc' : Nat} {Ls : Array Slot} {x : Int64} {y : Int32} {rest : List Value} (hd : decode c.code pc = .ok (.lushr, 1)) (hp : pc + 1 = pc') (h : OG p e below s Q kc ks T (mkF m pc' Ls (.long ((x.toUInt64 >>> (y &&& 0x3f).toInt64.toUInt64).toInt64) :: rest))) : OG p e below s Q kc ks T (mkF m pc Ls (.int y :: .long x :: rest)) := by
  subst hp; exact OG.step (fun t q => XS.lushr X.here hx rfl hd rfl q) h
theorem o_idiv (X : Stand p l e R s m args below meth c T locs cells slots) (hx : p.tables.exec = Jvm.exec) {pc pc' : Nat} {Ls : Array Slot} {x y : Int32} {rest : List Value} (hd : decode c.code pc = .ok (.idiv, 1)) (hy : y ≠ 0) (hp : pc + 1 = pc') (h : OG p e below s Q kc ks T (mkF m pc' Ls (.int (x / y) :: rest))) : OG p e below s Q kc ks T (mkF m pc Ls (.int y :: .int x :: rest)) := by
  subst hp; exact OG.step (fun t q => XS.idiv X.here hx rfl hd rfl hy q) h
theorem o_ldiv (X : Stand p l e R s m args below meth c T locs cells slots) (hx : p.tables.exec = Jvm.exec) {pc pc' : Nat} {Ls : Array Slot} {x y : Int64} {rest : List Value} (hd : decode c.code pc = .ok (.ldiv, 1)) (hy : y ≠ 0) (hp : pc + 1 = pc') (h : OG p e below s Q kc ks T (mkF m pc' Ls (.long (x / y) :: rest))) : OG p e below s Q kc ks T (mkF m pc Ls (.long y :: .long x :: rest)) := by
  subst hp; exact OG.step (fun t q => XS.ldiv X.here hx rfl hd rfl hy q) h
theorem o_irem (X : Stand p l e R s m args below meth c T locs cells slots) (hx : p.tables.exec = Jvm.exec) {pc pc' : Nat} {Ls : Array Slot} {x y : Int32} {rest : List Value} (hd : decode c.code pc = .ok (.irem, 1)) (hy : y ≠ 0) (hp : pc + 1 = pc') (h : OG p e below s Q kc ks T (mkF m pc' Ls (.int (x % y) :: rest))) : OG p e below s Q kc ks T (mkF m pc Ls (.int y :: .int x :: rest)) := by
  subst hp; exact OG.step (fun t q => iremM X hx rfl hd rfl hy q) h
theorem o_lrem (X : Stand p l e R s m args below meth c T locs cells slots) (hx : p.tables.exec = Jvm.exec) {pc pc' : Nat} {Ls : Array Slot} {x y : Int64} {rest : List Value} (hd : decode c.code pc = .ok (.lrem, 1)) (hy : y ≠ 0) (hp : pc + 1 = pc') (h : OG p e below s Q kc ks T (mkF m pc' Ls (.long (x % y) :: rest))) : OG p e below s Q kc ks T (mkF m pc Ls (.long y :: .long x :: rest)) := by
  subst hp; rw [← lrem_mod] at h; exact OG.step (fun t q => XS.lrem X.here hx rfl hd rfl hy q) h
theorem o_ineg (X : Stand p l e R s m args below meth c T locs cells slots) (hx : p.tables.exec = Jvm.exec) {pc pc' : Nat} {Ls : Array Slot} {x : Int32} {rest : List Value} (hd : decode c.code pc = .ok (.ineg, 1)) (hp : pc + 1 = pc') (h : OG p e below s Q kc ks T (mkF m pc' Ls (.int ((-x)) :: rest))) : OG p e below s Q kc ks T (mkF m pc Ls (.int x :: rest)) := by
  subst hp; exact OG.step (fun t q => XS.ineg X.here hx rfl hd rfl q) h
theorem o_lneg (X : Stand p l e R s m args below meth c T locs cells slots) (hx : p.tables.exec = Jvm.exec) {pc pc' : Nat} {Ls : Array Slot} {x : Int64} {rest : List Value} (hd : decode c.code pc = .ok (.lneg, 1)) (hp : pc + 1 = pc') (h : OG p e below s Q kc ks T (mkF m pc' Ls (.long ((-x)) :: rest))) : OG p e below s Q kc ks T (mkF m pc Ls (.long x :: rest)) := by
  subst hp; exact OG.step (fun t q => XS.lneg X.here hx rfl hd rfl q) h
theorem o_i2l (X : Stand p l e R s m args below meth c T locs cells slots) (hx : p.tables.exec = Jvm.exec) {pc pc' : Nat} {Ls : Array Slot} {x : Int32} {rest : List Value} (hd : decode c.code pc = .ok (.i2l, 1)) (hp : pc + 1 = pc') (h : OG p e below s Q kc ks T (mkF m pc' Ls (.long (x.toInt64) :: rest))) : OG p e below s Q kc ks T (mkF m pc Ls (.int x :: rest)) := by
  subst hp; exact OG.step (fun t q => XS.i2l X.here hx rfl hd rfl q) h
theorem o_l2i (X : Stand p l e R s m args below meth c T locs cells slots) (hx : p.tables.exec = Jvm.exec) {pc pc' : Nat} {Ls : Array Slot} {x : Int64} {rest : List Value} (hd : decode c.code pc = .ok (.l2i, 1)) (hp : pc + 1 = pc') (h : OG p e below s Q kc ks T (mkF m pc' Ls (.int (x.toInt32) :: rest))) : OG p e below s Q kc ks T (mkF m pc Ls (.long x :: rest)) := by
  subst hp; exact OG.step (fun t q => XS.l2i X.here hx rfl hd rfl q) h
theorem o_i2b (X : Stand p l e R s m args below meth c T locs cells slots) (hx : p.tables.exec = Jvm.exec) {pc pc' : Nat} {Ls : Array Slot} {x : Int32} {rest : List Value} (hd : decode c.code pc = .ok (.i2b, 1)) (hp : pc + 1 = pc') (h : OG p e below s Q kc ks T (mkF m pc' Ls (.int (x.toInt8.toInt32) :: rest))) : OG p e below s Q kc ks T (mkF m pc Ls (.int x :: rest)) := by
  subst hp; exact OG.step (fun t q => XS.i2b X.here hx rfl hd rfl q) h
theorem o_i2c (X : Stand p l e R s m args below meth c T locs cells slots) (hx : p.tables.exec = Jvm.exec) {pc pc' : Nat} {Ls : Array Slot} {x : Int32} {rest : List Value} (hd : decode c.code pc = .ok (.i2c, 1)) (hp : pc + 1 = pc') (h : OG p e below s Q kc ks T (mkF m pc' Ls (.int (x.toUInt32.toUInt16.toUInt32.toInt32) :: rest))) : OG p e below s Q kc ks T (mkF m pc Ls (.int x :: rest)) := by
  subst hp; exact OG.step (fun t q => XS.i2c X.here hx rfl hd rfl q) h
theorem o_i2s (X : Stand p l e R s m args below meth c T locs cells slots) (hx : p.tables.exec = Jvm.exec) {pc pc' : Nat} {Ls : Array Slot} {x : Int32} {rest : List Value} (hd : decode c.code pc = .ok (.i2s, 1)) (hp : pc + 1 = pc') (h : OG p e below s Q kc ks T (mkF m pc' Ls (.int (x.toInt16.toInt32) :: rest))) : OG p e below s Q kc ks T (mkF m pc Ls (.int x :: rest)) := by
  subst hp; exact OG.step (fun t q => XS.i2s X.here hx rfl hd rfl q) h
theorem o_lcmp (X : Stand p l e R s m args below meth c T locs cells slots) (hx : p.tables.exec = Jvm.exec) {pc pc' : Nat} {Ls : Array Slot} {x y : Int64} {rest : List Value} (hd : decode c.code pc = .ok (.lcmp, 1)) (hp : pc + 1 = pc') (h : OG p e below s Q kc ks T (mkF m pc' Ls (.int (lcmpW x y) :: rest))) : OG p e below s Q kc ks T (mkF m pc Ls (.long y :: .long x :: rest)) := by
  subst hp; exact OG.step (fun t q => XS.lcmp X.here hx rfl hd rfl q) h
theorem o_iconst (X : Stand p l e R s m args below meth c T locs cells slots) (hx : p.tables.exec = Jvm.exec) {pc pc' : Nat} {Ls : Array Slot} {i : Int} {rest : List Value} (hd : decode c.code pc = .ok (.iconst i, 1)) (w : Int32) (hv : Int32.ofInt i = w) (hp : pc + 1 = pc') (h : OG p e below s Q kc ks T (mkF m pc' Ls (.int w :: rest))) : OG p e below s Q kc ks T (mkF m pc Ls (rest)) := by
  subst hp hv; exact OG.step (fun t q => XS.iconst X.here hx rfl hd q) h
theorem o_bipush (X : Stand p l e R s m args below meth c T locs cells slots) (hx : p.tables.exec = Jvm.exec) {pc pc' : Nat} {Ls : Array Slot} {i : Int} {rest : List Value} (hd : decode c.code pc = .ok (.bipush i, 2)) (w : Int32) (hv : (Int8.ofInt i).toInt32 = w) (hp : pc + 2 = pc') (h : OG p e below s Q kc ks T (mkF m pc' Ls (.int w :: rest))) : OG p e below s Q kc ks T (mkF m pc Ls (rest)) := by
  subst hp hv; exact OG.step (fun t q => XS.bipush X.here hx rfl hd q) h
theorem o_sipush (X : Stand p l e R s m args below meth c T locs cells slots) (hx : p.tables.exec = Jvm.exec) {pc pc' : Nat} {Ls : Array Slot} {i : Int} {rest : List Value} (hd : decode c.code pc = .ok (.sipush i, 3)) (w : Int32) (hv : (Int16.ofInt i).toInt32 = w) (hp : pc + 3 = pc') (h : OG p e below s Q kc ks T (mkF m pc' Ls (.int w :: rest))) : OG p e below s Q kc ks T (mkF m pc Ls (rest)) := by
  subst hp hv; exact OG.step (fun t q => XS.sipush X.here hx rfl hd q) h
theorem o_lconst (X : Stand p l e R s m args below meth c T locs cells slots) (hx : p.tables.exec = Jvm.exec) {pc pc' : Nat} {Ls : Array Slot} {i : Fin 2} {rest : List Value} (hd : decode c.code pc = .ok (.lconst i, 1)) (w : Int64) (hv : Int64.ofNat i = w) (hp : pc + 1 = pc') (h : OG p e below s Q kc ks T (mkF m pc' Ls (.long w :: rest))) : OG p e below s Q kc ks T (mkF m pc Ls (rest)) := by
  subst hp hv; exact OG.step (fun t q => XS.lconst X.here hx rfl hd q) h
theorem o_aconst_null (X : Stand p l e R s m args below meth c T locs cells slots) (hx : p.tables.exec = Jvm.exec) {pc pc' : Nat} {Ls : Array Slot} {rest : List Value} (hd : decode c.code pc = .ok (.aconst_null, 1)) (hp : pc + 1 = pc') (h : OG p e below s Q kc ks T (mkF m pc' Ls (.null :: rest))) : OG p e below s Q kc ks T (mkF m pc Ls (rest)) := by
  subst hp; exact OG.step (fun t q => XS.aconstNull X.here hx rfl hd q) h
theorem o_iload_n (X : Stand p l e R s m args below meth c T locs cells slots) (hx : p.tables.exec = Jvm.exec) {pc pc' : Nat} {Ls : Array Slot} {i : Fin 4} {x : Int32} {rest : List Value} (hd : decode c.code pc = .ok (.iload_n i, 1)) (hl : Ls[i.val]? = some (.val (.int x))) (hp : pc + 1 = pc') (h : OG p e below s Q kc ks T (mkF m pc' Ls (.int x :: rest))) : OG p e below s Q kc ks T (mkF m pc Ls (rest)) := by
  subst hp; exact OG.step (fun t q => XS.iloadN X.here hx rfl hd hl q) h
theorem o_iload (X : Stand p l e R s m args below meth c T locs cells slots) (hx : p.tables.exec = Jvm.exec) {pc pc' : Nat} {Ls : Array Slot} {i : Nat} {x : Int32} {rest : List Value} (hd : decode c.code pc = .ok (.iload i, 2)) (hl : Ls[i]? = some (.val (.int x))) (hp : pc + 2 = pc') (h : OG p e below s Q kc ks T (mkF m pc' Ls (.int x :: rest))) : OG p e below s Q kc ks T (mkF m pc Ls (rest)) := by
  subst hp; exact OG.step (fun t q => XS.iload X.here hx rfl hd hl q) h
theorem o_lload_n (X : Stand p l e R s m args below meth c T locs cells slots) (hx : p.tables.exec = Jvm.exec) {pc pc' : Nat} {Ls : Array Slot} {i : Fin 4} {x : Int64} {rest : List Value} (hd : decode c.code pc = .ok (.lload_n i, 1)) (hl : Ls[i.val]? = some (.val (.long x))) (hp : pc + 1 = pc') (h : OG p e below s Q kc ks T (mkF m pc' Ls (.long x :: rest))) : OG p e below s Q kc ks T (mkF m pc Ls (rest)) := by
  subst hp; exact OG.step (fun t q => XS.lloadN X.here hx rfl hd hl q) h
theorem o_lload (X : Stand p l e R s m args below meth c T locs cells slots) (hx : p.tables.exec = Jvm.exec) {pc pc' : Nat} {Ls : Array Slot} {i : Nat} {x : Int64} {rest : List Value} (hd : decode c.code pc = .ok (.lload i, 2)) (hl : Ls[i]? = some (.val (.long x))) (hp : pc + 2 = pc') (h : OG p e below s Q kc ks T (mkF m pc' Ls (.long x :: rest))) : OG p e below s Q kc ks T (mkF m pc Ls (rest)) := by
  subst hp; exact OG.step (fun t q => XS.lload X.here hx rfl hd hl q) h
theorem o_aload_n (X : Stand p l e R s m args below meth c T locs cells slots) (hx : p.tables.exec = Jvm.exec) {pc pc' : Nat} {Ls : Array Slot} {i : Fin 4} {x : Value} {rest : List Value} (hd : decode c.code pc = .ok (.aload_n i, 1)) (hl : Ls[i.val]? = some (.val x)) (hv : x.isRef = true) (hp : pc + 1 = pc') (h : OG p e below s Q kc ks T (mkF m pc' Ls (x :: rest))) : OG p e below s Q kc ks T (mkF m pc Ls (rest)) := by
  subst hp; exact OG.step (fun t q => XS.aloadN X.here hx rfl hd hl hv q) h
theorem o_aload (X : Stand p l e R s m args below meth c T locs cells slots) (hx : p.tables.exec = Jvm.exec) {pc pc' : Nat} {Ls : Array Slot} {i : Nat} {x : Value} {rest : List Value} (hd : decode c.code pc = .ok (.aload i, 2)) (hl : Ls[i]? = some (.val x)) (hv : x.isRef = true) (hp : pc + 2 = pc') (h : OG p e below s Q kc ks T (mkF m pc' Ls (x :: rest))) : OG p e below s Q kc ks T (mkF m pc Ls (rest)) := by
  subst hp; exact OG.step (fun t q => XS.aload X.here hx rfl hd hl hv q) h
theorem o_istore_n (X : Stand p l e R s m args below meth c T locs cells slots) (hx : p.tables.exec = Jvm.exec) {pc pc' : Nat} {Ls : Array Slot} {i : Fin 4} {x : Int32} {rest : List Value} (hd : decode c.code pc = .ok (.istore_n i, 1)) (l' : Array Slot) (hl : storeLocals Ls i.val (.int x) = some l') (hp : pc + 1 = pc') (h : OG p e below s Q kc ks T (mkF m pc' l' (rest))) : OG p e below s Q kc ks T (mkF m pc Ls (.int x :: rest)) := by
  subst hp; exact OG.step (fun t q => XS.istoreN X.here hx rfl hd rfl hl q) h
theorem o_istore (X : Stand p l e R s m args below meth c T locs cells slots) (hx : p.tables.exec = Jvm.exec) {pc pc' : Nat} {Ls : Array Slot} {i : Nat} {x : Int32} {rest : List Value} (hd : decode c.code pc = .ok (.istore i, 2)) (l' : Array Slot) (hl : storeLocals Ls i (.int x) = some l') (hp : pc + 2 = pc') (h : OG p e below s Q kc ks T (mkF m pc' l' (rest))) : OG p e below s Q kc ks T (mkF m pc Ls (.int x :: rest)) := by
  subst hp; exact OG.step (fun t q => XS.istore X.here hx rfl hd rfl hl q) h
theorem o_lstore_n (X : Stand p l e R s m args below meth c T locs cells slots) (hx : p.tables.exec = Jvm.exec) {pc pc' : Nat} {Ls : Array Slot} {i : Fin 4} {x : Int64} {rest : List Value} (hd : decode c.code pc = .ok (.lstore_n i, 1)) (l' : Array Slot) (hl : storeLocals Ls i.val (.long x) = some l') (hp : pc + 1 = pc') (h : OG p e below s Q kc ks T (mkF m pc' l' (rest))) : OG p e below s Q kc ks T (mkF m pc Ls (.long x :: rest)) := by
  subst hp; exact OG.step (fun t q => XS.lstoreN X.here hx rfl hd rfl hl q) h
theorem o_lstore (X : Stand p l e R s m args below meth c T locs cells slots) (hx : p.tables.exec = Jvm.exec) {pc pc' : Nat} {Ls : Array Slot} {i : Nat} {x : Int64} {rest : List Value} (hd : decode c.code pc = .ok (.lstore i, 2)) (l' : Array Slot) (hl : storeLocals Ls i (.long x) = some l') (hp : pc + 2 = pc') (h : OG p e below s Q kc ks T (mkF m pc' l' (rest))) : OG p e below s Q kc ks T (mkF m pc Ls (.long x :: rest)) := by
  subst hp; exact OG.step (fun t q => XS.lstore X.here hx rfl hd rfl hl q) h
theorem o_astore_n (X : Stand p l e R s m args below meth c T locs cells slots) (hx : p.tables.exec = Jvm.exec) {pc pc' : Nat} {Ls : Array Slot} {i : Fin 4} {x : Value} {rest : List Value} (hd : decode c.code pc = .ok (.astore_n i, 1)) (hv : x.isRef = true) (l' : Array Slot) (hl : storeLocals Ls i.val x = some l') (hp : pc + 1 = pc') (h : OG p e below s Q kc ks T (mkF m pc' l' (rest))) : OG p e below s Q kc ks T (mkF m pc Ls (x :: rest)) := by
  subst hp; exact OG.step (fun t q => XS.astoreN X.here hx rfl hd rfl hv hl q) h
theorem o_astore (X : Stand p l e R s m args below meth c T locs cells slots) (hx : p.tables.exec = Jvm.exec) {pc pc' : Nat} {Ls : Array Slot} {i : Nat} {x : Value} {rest : List Value} (hd : decode c.code pc = .ok (.astore i, 2)) (hv : x.isRef = true) (l' : Array Slot) (hl : storeLocals Ls i x = some l') (hp : pc + 2 = pc') (h : OG p e below s Q kc ks T (mkF m pc' l' (rest))) : OG p e below s Q kc ks T (mkF m pc Ls (x :: rest)) := by
  subst hp; exact OG.step (fun t q => XS.astore X.here hx rfl hd rfl hv hl q) h
theorem o_iinc (X : Stand p l e R s m args below meth c T locs cells slots) (hx : p.tables.exec = Jvm.exec) {pc pc' : Nat} {Ls : Array Slot} {i : Nat} {k : Int} {x : Int32} {rest : List Value} (hd : decode c.code pc = .ok (.iinc i k, 3)) (w : Int32) (hw' : Int32.ofInt k = w) (hl : Ls[i]? = some (.val (.int x))) (l' : Array Slot) (hl' : storeLocals Ls i (.int (x + w)) = some l') (hp : pc + 3 = pc') (h : OG p e below s Q kc ks T (mkF m pc' l' (rest))) : OG p e below s Q kc ks T (mkF m pc Ls (rest)) := by
  subst hp hw'; exact OG.step (fun t q => XS.iinc X.here hx rfl hd hl hl' q) h
theorem o_dup (X : Stand p l e R s m args below meth c T locs cells slots) (hx : p.tables.exec = Jvm.exec) {pc pc' : Nat} {Ls : Array Slot} {x : Value} {rest : List Value} (hd : decode c.code pc = .ok (.dup, 1)) (hc : x.category = 1) (hp : pc + 1 = pc') (h : OG p e below s Q kc ks T (mkF m pc' Ls (x :: x :: rest))) : OG p e below s Q kc ks T (mkF m pc Ls (x :: rest)) := by
  subst hp; exact OG.step (fun t q => XS.dup X.here hx rfl hd rfl hc q) h
theorem o_pop (X : Stand p l e R s m args below meth c T locs cells slots) (hx : p.tables.exec = Jvm.exec) {pc pc' : Nat} {Ls : Array Slot} {x : Value} {rest : List Value} (hd : decode c.code pc = .ok (.pop, 1)) (hc : x.category = 1) (hp : pc + 1 = pc') (h : OG p e below s Q kc ks T (mkF m pc' Ls (rest))) : OG p e below s Q kc ks T (mkF m pc Ls (x :: rest)) := by
  subst hp; exact OG.step (fun t q => XS.pop X.here hx rfl hd rfl hc q) h
theorem o_dup_x1 (X : Stand p l e R s m args below meth c T locs cells slots) (hx : p.tables.exec = Jvm.exec) {pc pc' : Nat} {Ls : Array Slot} {x y : Value} {rest : List Value} (hd : decode c.code pc = .ok (.dup_x1, 1)) (hc : x.category = 1) (hc2 : y.category = 1) (hp : pc + 1 = pc') (h : OG p e below s Q kc ks T (mkF m pc' Ls (x :: y :: x :: rest))) : OG p e below s Q kc ks T (mkF m pc Ls (x :: y :: rest)) := by
  subst hp; exact OG.step (fun t q => XS.dupX1 X.here hx rfl hd rfl hc hc2 q) h
theorem o_goto (X : Stand p l e R s m args below meth c T locs cells slots) (hx : p.tables.exec = Jvm.exec) {pc pc' : Nat} {Ls : Array Slot} {rest : List Value} {o : Int} (hd : decode c.code pc = .ok (.goto o, 3)) (ho : 0 ≤ (pc : Int) + o) (hp : ((pc : Int) + o).toNat = pc') (h : OG p e below s Q kc ks T (mkF m pc' Ls rest)) : OG p e below s Q kc ks T (mkF m pc Ls rest) :=
  OG.step (fun t q => XS.goto X.here hx rfl rfl hd ho hp q) h
theorem o_ifYes (X : Stand p l e R s m args below meth c T locs cells slots) (hx : p.tables.exec = Jvm.exec) {pc pc' : Nat} {Ls : Array Slot} {rest : List Value} {o : Int} {cd : ClassFile.Cond} {x : Int32} (hd : decode c.code pc = .ok (.ifCond cd o, 3)) (hc : ifCond.holds cd x = true) (ho : 0 ≤ (pc : Int) + o) (hp : ((pc : Int) + o).toNat = pc') (h : OG p e below s Q kc ks T (mkF m pc' Ls rest)) : OG p e below s Q kc ks T (mkF m pc Ls (.int x :: rest)) :=
  OG.step (fun t q => XS.ifYes X.here hx rfl rfl hd rfl hc ho hp q) h
theorem o_ifNo (X : Stand p l e R s m args below meth c T locs cells slots) (hx : p.tables.exec = Jvm.exec) {pc pc' : Nat} {Ls : Array Slot} {rest : List Value} {o : Int} {cd : ClassFile.Cond} {x : Int32} (hd : decode c.code pc = .ok (.ifCond cd o, 3)) (hc : ifCond.holds cd x = false) (hp : pc + 3 = pc') (h : OG p e below s Q kc ks T (mkF m pc' Ls rest)) : OG p e below s Q kc ks T (mkF m pc Ls (.int x :: rest)) := by
  subst hp; exact OG.step (fun t q => XS.ifNo X.here hx rfl hd rfl hc q) h
theorem o_icmpYes (X : Stand p l e R s m args below meth c T locs cells slots) (hx : p.tables.exec = Jvm.exec) {pc pc' : Nat} {Ls : Array Slot} {rest : List Value} {o : Int} {cd : ClassFile.Cond} {x y : Int32} (hd : decode c.code pc = .ok (.if_icmp cd o, 3)) (hc : if_icmp.holds cd x y = true) (ho : 0 ≤ (pc : Int) + o) (hp : ((pc : Int) + o).toNat = pc') (h : OG p e below s Q kc ks T (mkF m pc' Ls rest)) : OG p e below s Q kc ks T (mkF m pc Ls (.int y :: .int x :: rest)) :=
  OG.step (fun t q => XS.icmpYes X.here hx rfl rfl hd rfl hc ho hp q) h
theorem o_icmpNo (X : Stand p l e R s m args below meth c T locs cells slots) (hx : p.tables.exec = Jvm.exec) {pc pc' : Nat} {Ls : Array Slot} {rest : List Value} {o : Int} {cd : ClassFile.Cond} {x y : Int32} (hd : decode c.code pc = .ok (.if_icmp cd o, 3)) (hc : if_icmp.holds cd x y = false) (hp : pc + 3 = pc') (h : OG p e below s Q kc ks T (mkF m pc' Ls rest)) : OG p e below s Q kc ks T (mkF m pc Ls (.int y :: .int x :: rest)) := by
  subst hp; exact OG.step (fun t q => XS.icmpNo X.here hx rfl hd rfl hc q) h
theorem o_ifnonnullYes (X : Stand p l e R s m args below meth c T locs cells slots) (hx : p.tables.exec = Jvm.exec) {pc pc' : Nat} {Ls : Array Slot} {rest : List Value} {o : Int} {b : Addr} (hd : decode c.code pc = .ok (.ifnonnull o, 3)) (ho : 0 ≤ (pc : Int) + o) (hp : ((pc : Int) + o).toNat = pc') (h : OG p e below s Q kc ks T (mkF m pc' Ls rest)) : OG p e below s Q kc ks T (mkF m pc Ls (.ref b :: rest)) :=
  OG.step (fun t q => XS.ifnonnullYes X.here hx rfl rfl hd rfl ho hp q) h
theorem o_ifnonnullNo (X : Stand p l e R s m args below meth c T locs cells slots) (hx : p.tables.exec = Jvm.exec) {pc pc' : Nat} {Ls : Array Slot} {rest : List Value} {o : Int} (hd : decode c.code pc = .ok (.ifnonnull o, 3)) (hp : pc + 3 = pc') (h : OG p e below s Q kc ks T (mkF m pc' Ls rest)) : OG p e below s Q kc ks T (mkF m pc Ls (.null :: rest)) := by
  subst hp; exact OG.step (fun t q => XS.ifnonnullNo X.here hx rfl hd rfl q) h
theorem o_ldcInt (X : Stand p l e R s m args below meth c T locs cells slots) (hx : p.tables.exec = Jvm.exec) {pc pc' : Nat} {Ls : Array Slot} {rest : List Value} {Z : State} {a0 : Array Value} {own : String} {i : Nat} {v : Int32} (hZ : Z.Warmed39 s.vm) (hown : s.vm.findClass own = some m.cls) (hd : decode c.code pc = .ok (.ldc i, 2)) (hk : (Cond.constant own i v).before a0 Z = true) (hp : pc + 2 = pc') (h : OG p e below s Q kc ks T (mkF m pc' Ls (.int v :: rest))) : OG p e below s Q kc ks T (mkF m pc Ls rest) := by
  subst hp; exact OG.step (fun t q => X.ldcInt hx hown (mvT hZ hk) (g := mkF m pc Ls rest) rfl hd t q) h
theorem o_ldc2Long (X : Stand p l e R s m args below meth c T locs cells slots) (hx : p.tables.exec = Jvm.exec) {pc pc' : Nat} {Ls : Array Slot} {rest : List Value} {Z : State} {a0 : Array Value} {own : String} {i : Nat} {v : Int64} (hZ : Z.Warmed39 s.vm) (hown : s.vm.findClass own = some m.cls) (hd : decode c.code pc = .ok (.ldc2_w i, 3)) (hk : (Cond.constantLong own i v).before a0 Z = true) (hp : pc + 3 = pc') (h : OG p e below s Q kc ks T (mkF m pc' Ls (.long v :: rest))) : OG p e below s Q kc ks T (mkF m pc Ls rest) := by
  subst hp; exact OG.step (fun t q => X.ldc2Long hx hown (mvT hZ hk) (g := mkF m pc Ls rest) rfl hd t q) h
theorem o_retI (X : Stand p l e R s m args below meth c T locs cells slots) (hx : p.tables.exec = Jvm.exec) (hlk : meth.locks = false) {pc : Nat} {Ls : Array Slot} {rest : List Value} {z : Int32} (hret : meth.sig.returnType = some .int) (hd : decode c.code pc = .ok (.ireturn, 1)) (hQ : Q (some (.int z)) T.heap locs) (h1 : cells ≤ kc) (h2 : slots ≤ ks) : OG p e below s Q kc ks T (mkF m pc Ls (.int z :: rest)) := by
  obtain ⟨fs, hr, hrun, hended, hW, hsame⟩ := X.leave (v := some (.int z)) (fun h => by rw [hret] at h; cases h) hlk
  exact ⟨_, _, retI X hx hret hd hr, hrun, hended, _, _, rfl, hQ, ⟨_, rfl⟩, hW, hsame.mono h1 h2⟩
theorem o_retJ (X : Stand p l e R s m args below meth c T locs cells slots) (hx : p.tables.exec = Jvm.exec) (hlk : meth.locks = false) {pc : Nat} {Ls : Array Slot} {rest : List Value} {z : Int64} (hret : meth.sig.returnType = some .long) (hd : decode c.code pc = .ok (.lreturn, 1)) (hQ : Q (some (.long z)) T.heap locs) (h1 : cells ≤ kc) (h2 : slots ≤ ks) : OG p e below s Q kc ks T (mkF m pc Ls (.long z :: rest)) := by
  obtain ⟨fs, hr, hrun, hended, hW, hsame⟩ := X.leave (v := some (.long z)) (fun h => by rw [hret] at h; cases h) hlk
  exact ⟨_, _, retJ X hx hret hd hr, hrun, hended, _, _, rfl, hQ, ⟨_, rfl⟩, hW, hsame.mono h1 h2⟩
theorem o_retN (X : Stand p l e R s m args below meth c T locs cells slots) (hx : p.tables.exec = Jvm.exec) (hlk : meth.locks = false) {pc : Nat} {Ls : Array Slot} {rest : List Value} {z w : Int32} {t : FieldType} (ht : t = .boolean ∨ t = .byte ∨ t = .char ∨ t = .short) (hret : meth.sig.returnType = some t) (hd : decode c.code pc = .ok (.ireturn, 1)) (hz : nar t z = w) (hQ : Q (some (.int w)) T.heap locs) (h1 : cells ≤ kc) (h2 : slots ≤ ks) : OG p e below s Q kc ks T (mkF m pc Ls (.int z :: rest)) := by
  subst hz
  obtain ⟨fs, hr, hrun, hended, hW, hsame⟩ := X.leave (v := some (.int (nar t z))) (fun h => by rw [hret] at h; cases h) hlk
  exact ⟨_, _, retN X hx hret ht hd hr, hrun, hended, _, _, rfl, hQ, ⟨_, rfl⟩, hW, hsame.mono h1 h2⟩
theorem o_ret (X : Stand p l e R s m args below meth c T locs cells slots) (hx : p.tables.exec = Jvm.exec) (hlk : meth.locks = false) {pc : Nat} {Ls : Array Slot} (hret : meth.sig.returnType = none) (hd : decode c.code pc = .ok (.return_, 1)) (hQ : Q none T.heap locs) (h1 : cells ≤ kc) (h2 : slots ≤ ks) : OG p e below s Q kc ks T (mkF m pc Ls []) := by
  obtain ⟨fs, hr, hrun, hended, hW, hsame⟩ := X.leave (v := none) (fun _ => rfl) hlk
  exact ⟨_, _, X.returnOut hx hret hd hr, hrun, hended, _, _, rfl, hQ, ⟨_, rfl⟩, hW, hsame.mono h1 h2⟩
variable {Z : State} {a0 : Array Value} {h : Heap}
theorem o_callS (X : Stand p l e R s m args below meth c T locs cells slots) (hx : p.tables.exec = Jvm.exec) (hZ : Z.Warmed39 s.vm) {own : String} {index : Nat} {y : MethodName} {bytes : ByteArray} {maxL : Nat} {ret : Option FieldType} {rm : Room} {Qc : Option Value → Heap → List Loc → Prop} {argsL rest st : List Value} {pc pc' : Nat} {Ls : Array Slot} (W : Nat)
    (hown : s.vm.findClass own = some m.cls) (eT : T.heap = h) (hlink : (Cond.methodLink own index y).before a0 Z = true) (hstat : (Cond.static y).before a0 Z = true) (hinit : (Cond.initialized y.cls).before a0 Z = true) (hcode : (Cond.code y bytes maxL ret).before a0 Z = true) (hy : y.cls ≠ "java/lang/invoke/MethodHandle" ∧ y.cls ≠ "java/lang/invoke/VarHandle")
    (hM : MetFree l y (head1 [Cond.code y bytes maxL ret] rm) (fun a U => a = argsL.toArray ∧ Z.Warmed39 U.vm ∧ U.heap = h) (fun _ _ _ _ _ => True) (fun _ U o U' => ∃ v L, o = .returned v ∧ Qc v U'.heap L ∧ FrameEnd U o U' L rm.cells rm.slots)) (hf : rm.frames + 1 ≤ R.frames) (hl : W + (maxL + 11) + rm.locals ≤ R.locals)
    (hsize : Ls.size = c.maxLocals) (hlen : ∀ sig, parseMethodDescriptor y.desc = some sig → argsL.length = sig.parameters.length) (hs : st = argsL.reverse ++ rest) (hW : (rest.map fun v => v.category).sum ≤ W) (hd : decode c.code pc = .ok (.invokestatic index, 3)) (hp : pc + 3 = pc') (hc : cells + rm.cells ≤ R.cells) (hsl : slots + rm.slots ≤ R.slots)
    (k : ∀ v T' L, Stand p l e R s m args below meth c T' (locs ++ L) (cells + rm.cells) (slots + rm.slots) → Qc v T'.heap L → OG p e below s Q kc ks T' (mkF m pc' Ls (v.toList ++ rest))) : OG p e below s Q kc ks T (mkF m pc Ls st) := by
  subst hp hs
  obtain ⟨v, vm₁, ⟨T1, L1, c1, n1⟩, -, X1, ⟨Lc, hQ, l1, y1, z1⟩, st⟩ := Jvm.LawKit.callS X hx (y := y) hown (mvT hZ hlink) (mvT hZ hstat) (mvT hZ hinit) (mvT hZ hcode) hy (backOf (W := W) hM hZ hcode hinit hf hl) (g := mkF m pc Ls (argsL.reverse ++ rest)) rfl hsize (argsL := argsL) (rest := rest) hlen rfl (by show 2 * 0 + _ ≤ _; omega) hd (fun _ _ => ⟨rfl, eT, hc, hsl⟩)
  dsimp only [Pt.U, Pt.locs, Pt.cells, Pt.slots] at X1 l1 y1 z1 st hQ
  subst l1 y1 z1
  exact OG.step st (k v T1 Lc X1 hQ)
theorem o_special (X : Stand p l e R s m args below meth c T locs cells slots) (hx : p.tables.exec = Jvm.exec) (hZ : Z.Warmed39 s.vm) {own : String} {index : Nat} {y : MethodName} {bytes : ByteArray} {maxL : Nat} {rm : Room} {Qc : Option Value → Heap → List Loc → Prop} {a : Addr} {argsL rest st : List Value} {pc pc' : Nat} {Ls : Array Slot} (W : Nat) (hy1 : y.name = "<init>")
    (hown : s.vm.findClass own = some m.cls) (eT : T.heap = h) (hlink : (Cond.methodLink own index y).before a0 Z = true) (hinst : (Cond.instanceMethod y).before a0 Z = true) (hinit : (Cond.initialized y.cls).before a0 Z = true) (hcode : (Cond.code y bytes maxL none).before a0 Z = true) (hy : y.cls ≠ "java/lang/invoke/MethodHandle" ∧ y.cls ≠ "java/lang/invoke/VarHandle")
    (hM : MetFree l y (head1 [Cond.code y bytes maxL none] rm) (fun b U => b = (.ref a :: argsL).toArray ∧ Z.Warmed39 U.vm ∧ U.heap = h) (fun _ _ _ _ _ => True) (fun _ U o U' => ∃ v L, o = .returned v ∧ Qc v U'.heap L ∧ FrameEnd U o U' L rm.cells rm.slots)) (hf : rm.frames + 1 ≤ R.frames) (hl : W + (maxL + 11) + rm.locals ≤ R.locals)
    (hsize : Ls.size = c.maxLocals) (hlen : ∀ sig, parseMethodDescriptor y.desc = some sig → argsL.length = sig.parameters.length) (hs : st = argsL.reverse ++ .ref a :: rest) (hW : (rest.map fun v => v.category).sum ≤ W) (hd : decode c.code pc = .ok (.invokespecial index, 3)) (hp : pc + 3 = pc') (hc : cells + rm.cells ≤ R.cells) (hsl : slots + rm.slots ≤ R.slots)
    (k : ∀ v T' L, Stand p l e R s m args below meth c T' (locs ++ L) (cells + rm.cells) (slots + rm.slots) → Qc v T'.heap L → OG p e below s Q kc ks T' (mkF m pc' Ls (v.toList ++ rest))) : OG p e below s Q kc ks T (mkF m pc Ls st) := by
  subst hp hs
  obtain ⟨v, vm₁, ⟨T1, L1, c1, n1⟩, -, X1, ⟨Lc, hQ, l1, y1, z1⟩, st⟩ := X.specialBack hx (y := y) hy1 hown (mvT hZ hlink) (mvT hZ hinst) (mvT hZ hcode) hy (backOf (W := W) hM hZ hcode hinit hf hl) (g := mkF m pc Ls (argsL.reverse ++ .ref a :: rest)) rfl hsize (Steps.refl _) (a := a) (argsL := argsL) (rest := rest) hlen rfl (by show 2 * 0 + _ ≤ _; omega) hd (fun _ _ => ⟨rfl, eT, hc, hsl⟩)
  dsimp only [Pt.U, Pt.locs, Pt.cells, Pt.slots] at X1 l1 y1 z1 st hQ
  subst l1 y1 z1
  exact OG.step (fun t q => st.trans q) (k v T1 Lc X1 hQ)
theorem o_virtual (X : Stand p l e R s m args below meth c T locs cells slots) (hx : p.tables.exec = Jvm.exec) (hZ : Z.Warmed39 s.vm) {own C : String} {index : Nat} {y : MethodName} {bytes : ByteArray} {maxL : Nat} {ret : Option FieldType} {rm : Room} {Qc : Option Value → Heap → List Loc → Prop} {a : Addr} {argsL rest st : List Value} {pc pc' : Nat} {Ls : Array Slot} (W : Nat)
    (hown : s.vm.findClass own = some m.cls) (eT : T.heap = h) (hlink : (Cond.methodLink own index y).before a0 Z = true) (hdecl : (Cond.declares y).before a0 Z = true) (hsel : (Cond.selects C y y).before a0 Z = true) (hinst : (Cond.instanceMethod y).before a0 Z = true) (hinit : (Cond.initialized y.cls).before a0 Z = true) (hcode : (Cond.code y bytes maxL ret).before a0 Z = true) (hy : y.cls ≠ "java/lang/invoke/MethodHandle" ∧ y.cls ≠ "java/lang/invoke/VarHandle")
    (E : Exa Z h a C)
    (hM : MetFree l y (head1 [Cond.code y bytes maxL ret] rm) (fun b U => b = (.ref a :: argsL).toArray ∧ Z.Warmed39 U.vm ∧ U.heap = h) (fun _ _ _ _ _ => True) (fun _ U o U' => ∃ v L, o = .returned v ∧ Qc v U'.heap L ∧ FrameEnd U o U' L rm.cells rm.slots)) (hf : rm.frames + 1 ≤ R.frames) (hl : W + (maxL + 11) + rm.locals ≤ R.locals)
    (hsize : Ls.size = c.maxLocals) (hlen : ∀ sig, parseMethodDescriptor y.desc = some sig → argsL.length = sig.parameters.length) (hs : st = argsL.reverse ++ .ref a :: rest) (hW : (rest.map fun v => v.category).sum ≤ W) (hd : decode c.code pc = .ok (.invokevirtual index, 3)) (hp : pc + 3 = pc') (hc : cells + rm.cells ≤ R.cells) (hsl : slots + rm.slots ≤ R.slots)
    (k : ∀ v T' L, Stand p l e R s m args below meth c T' (locs ++ L) (cells + rm.cells) (slots + rm.slots) → Qc v T'.heap L → OG p e below s Q kc ks T' (mkF m pc' Ls (v.toList ++ rest))) : OG p e below s Q kc ks T (mkF m pc Ls st) := by
  subst hp hs
  obtain ⟨cq, kq, qa, qb, qc⟩ := isOf hZ eT E
  obtain ⟨v, vm₁, ⟨T1, L1, c1, n1⟩, -, X1, ⟨Lc, hQ, l1, y1, z1⟩, st⟩ := X.virtualBack hx (y := y) (z := y) hown (mvT hZ hlink) (mvT hZ hdecl) (notFace_of_selects (args := #[]) (mvT hZ hsel)) (mvT hZ hsel) (mvT hZ hinst) hy (backOf (W := W) hM hZ hcode hinit hf hl) qa qc (g := mkF m pc Ls (argsL.reverse ++ .ref a :: rest)) rfl hsize (Steps.refl _) (argsL := argsL) (rest := rest) hlen rfl (by show 2 * 0 + _ ≤ _; omega) hd (fun _ _ => ⟨rfl, eT, hc, hsl⟩)
  dsimp only [Pt.U, Pt.locs, Pt.cells, Pt.slots] at X1 l1 y1 z1 st hQ
  subst l1 y1 z1
  exact OG.step (fun t q => st.trans q) (k v T1 Lc X1 hQ)
theorem o_new (X : Stand p l e R s m args below meth c T locs cells slots) (hx : p.tables.exec = Jvm.exec) (hZ : Z.Warmed39 s.vm) {own C : String} {index n : Nat} {pc pc' : Nat} {Ls : Array Slot} {rest : List Value} (hown : s.vm.findClass own = some m.cls) (eT : T.heap = h) (w : (Cond.classLink own index C).before a0 Z = true) (wi : (Cond.instantiable C n).before a0 Z = true) (wz : (Cond.initialized C).before a0 Z = true) (hd : decode c.code pc = .ok (.new index, 3)) (hp : pc + 3 = pc') (hc : cells + 1 ≤ R.cells) (hl : slots + n ≤ R.slots)
    (k : ∀ T' h' a, Stand p l e R s m args below meth c T' locs (cells + 1) (slots + n) → T'.heap = h' → a = h.size → Ext h h' → Exa Z h' a C → (∀ {O nm d : String} {ty : FieldType}, Laid Z a0 C O nm d → parseFieldDescriptor d = some ty → Fld Z h' a O nm d (defaultValue ty)) → OG p e below s Q kc ks T' (mkF m pc' Ls (.ref a :: rest))) : OG p e below s Q kc ks T (mkF m pc Ls rest) := by
  subst hp
  obtain ⟨T2, h2, X2, e2, E2, A2, D2, -, st2⟩ := newO X hx hZ hown w wi wz eT (g := mkF m pc Ls rest) rfl hd hc hl
  exact OG.step st2 (k T2 h2 _ X2 e2 rfl E2 A2 D2)
theorem o_initO (X : Stand p l e R s m args below meth c T locs cells slots) (hx : p.tables.exec = Jvm.exec) (hZ : Z.Warmed39 s.vm) {own : String} {index : Nat} {a : Addr} {pc pc' : Nat} {Ls : Array Slot} {rest : List Value} (W : Nat) (hown : s.vm.findClass own = some m.cls) (eT : T.heap = h)
    (w1 : (Cond.methodLink own index Lib.objectInit).before a0 Z = true) (w2 : (Cond.instanceMethod Lib.objectInit).before a0 Z = true) (w3 : (Cond.code Lib.objectInit object_method_1_code 1 none).before a0 Z = true) (hsize : Ls.size = c.maxLocals) (hd : decode c.code pc = .ok (.invokespecial index, 3)) (hf : 1 ≤ R.frames) (hW : (rest.map fun v => v.category).sum ≤ W) (hl : W + 12 ≤ R.locals) (hp : pc + 3 = pc')
    (k : ∀ T', Stand p l e R s m args below meth c T' locs cells slots → T'.heap = h → OG p e below s Q kc ks T' (mkF m pc' Ls rest)) : OG p e below s Q kc ks T (mkF m pc Ls (.ref a :: rest)) := by
  subst hp
  obtain ⟨T1, X1, e1, st1⟩ := initO X hx hZ hown w1 w2 w3 eT (g := mkF m pc Ls (.ref a :: rest)) rfl hsize rfl hd hf (W := W) (by show 2 * 0 + _ ≤ _; omega) hl
  exact OG.step st1 (k T1 X1 e1)
theorem o_getF (X : Stand p l e R s m args below meth c T locs cells slots) (hx : p.tables.exec = Jvm.exec) (hZ : Z.Warmed39 s.vm) {own R0 O n d : String} {index : Nat} {a : Addr} {v : Value} {pc pc' : Nat} {Ls : Array Slot} {rest : List Value} (hown : s.vm.findClass own = some m.cls) (eT : T.heap = h) (w : (Cond.fieldLink own index R0 n d).before a0 Z = true) (via : Via Z R0 O n d) (F : Fld Z h a O n d v) (hd : decode c.code pc = .ok (.getfield index, 3)) (hp : pc + 3 = pc')
    (k : ∀ T', Stand p l e R s m args below meth c T' locs cells slots → T'.heap = h → OG p e below s Q kc ks T' (mkF m pc' Ls (v :: rest))) : OG p e below s Q kc ks T (mkF m pc Ls (.ref a :: rest)) := by
  subst hp
  obtain ⟨T1, X1, e1, st1⟩ := getF X hx hZ hown (host := "") (Or.inl w) via eT F (g := mkF m pc Ls (.ref a :: rest)) rfl rfl hd
  exact OG.step st1 (k T1 X1 e1)
theorem o_putF (X : Stand p l e R s m args below meth c T locs cells slots) (hx : p.tables.exec = Jvm.exec) (hZ : Z.Warmed39 s.vm) {own R0 O n d C : String} {index kk : Nat} {ty : FieldType} {a : Addr} {v old : Value} {pc pc' : Nat} {Ls : Array Slot} {rest : List Value} (hown : s.vm.findClass own = some m.cls) (eT : T.heap = h) (w : (Cond.fieldLink own index R0 n d).before a0 Z = true) (via : Via Z R0 O n d) (F : Fld Z h a O n d old) (E : Exa Z h a C)
    (L : (Cond.lays C O n d).before a0 Z = true ∨ ((Cond.laysFinal C O n d).before a0 Z = true ∧ own = O ∧ meth.name = "<init>")) (wi : (Cond.instantiable C kk).before a0 Z = true) (hty : parseFieldDescriptor d = some ty) (hn : narrow ty v = v) (hf : fits ty v = true) (hd : decode c.code pc = .ok (.putfield index, 3)) (hp : pc + 3 = pc')
    (k : ∀ T' h', Stand p l e R s m args below meth c T' (locs ++ [⟨a, RoadKit.slotOf Z O n d⟩]) cells slots → T'.heap = h' → Wr h h' a (RoadKit.slotOf Z O n d) v → OG p e below s Q kc ks T' (mkF m pc' Ls rest)) : OG p e below s Q kc ks T (mkF m pc Ls (v :: .ref a :: rest)) := by
  subst hp
  obtain ⟨T1, h1, X1, e1, W1, st1⟩ := putF X hx hZ hown (host := "") (Or.inl w) via eT F E L wi hty hn hf (g := mkF m pc Ls (v :: .ref a :: rest)) rfl rfl hd
  exact OG.step st1 (k T1 h1 X1 e1 W1)
theorem z_tlt {x : Int32} (h : x < 0) : ifCond.holds .lt x = true ∧ ifCond.holds .ge x = false := ⟨(if0 _ _).trans (tlt h).1, (if0 _ _).trans (tlt h).2.1⟩
theorem z_flt {x : Int32} (h : ¬ x < 0) : ifCond.holds .lt x = false ∧ ifCond.holds .ge x = true := ⟨(if0 _ _).trans (flt h).1, (if0 _ _).trans (flt h).2.1⟩
theorem z_tgt {x : Int32} (h : 0 < x) : ifCond.holds .gt x = true ∧ ifCond.holds .le x = false := ⟨(if0 _ _).trans (tlt h).2.2.1, (if0 _ _).trans (tlt h).2.2.2⟩
theorem z_fgt {x : Int32} (h : ¬ 0 < x) : ifCond.holds .gt x = false ∧ ifCond.holds .le x = true := ⟨(if0 _ _).trans (flt h).2.2.1, (if0 _ _).trans (flt h).2.2.2⟩
theorem z_teq {x : Int32} (h : x = 0) : ifCond.holds .eq x = true ∧ ifCond.holds .ne x = false := ⟨(if0 _ _).trans (teq h).1, (if0 _ _).trans (teq h).2⟩
theorem z_feq {x : Int32} (h : ¬ x = 0) : ifCond.holds .eq x = false ∧ ifCond.holds .ne x = true := ⟨(if0 _ _).trans (feq h).1, (if0 _ _).trans (feq h).2⟩
theorem c_tlt {x y : Int32} (h : x < y) : if_icmp.holds .lt x y = true ∧ if_icmp.holds .ge x y = false := ⟨(tlt h).1, (tlt h).2.1⟩
theorem c_flt {x y : Int32} (h : ¬ x < y) : if_icmp.holds .lt x y = false ∧ if_icmp.holds .ge x y = true := ⟨(flt h).1, (flt h).2.1⟩
theorem c_tgt {x y : Int32} (h : y < x) : if_icmp.holds .gt x y = true ∧ if_icmp.holds .le x y = false := ⟨(tlt h).2.2.1, (tlt h).2.2.2⟩
theorem c_fgt {x y : Int32} (h : ¬ y < x) : if_icmp.holds .gt x y = false ∧ if_icmp.holds .le x y = true := ⟨(flt h).2.2.1, (flt h).2.2.2⟩
theorem c_teq {x y : Int32} (h : x = y) : if_icmp.holds .eq x y = true ∧ if_icmp.holds .ne x y = false := teq h
theorem c_feq {x y : Int32} (h : ¬ x = y) : if_icmp.holds .eq x y = false ∧ if_icmp.holds .ne x y = true := feq h
theorem l_tlt {x y : Int64} (h : x < y) : ifCond.holds .lt (lcmpW x y) = true ∧ ifCond.holds .ge (lcmpW x y) = false := z_tlt ((lw_lt x y).mpr h)
theorem l_flt {x y : Int64} (h : ¬ x < y) : ifCond.holds .lt (lcmpW x y) = false ∧ ifCond.holds .ge (lcmpW x y) = true := z_flt (fun q => h ((lw_lt x y).mp q))
theorem l_tgt {x y : Int64} (h : y < x) : ifCond.holds .gt (lcmpW x y) = true ∧ ifCond.holds .le (lcmpW x y) = false := z_tgt ((lw_gt x y).mpr h)
theorem l_fgt {x y : Int64} (h : ¬ y < x) : ifCond.holds .gt (lcmpW x y) = false ∧ ifCond.holds .le (lcmpW x y) = true := z_fgt (fun q => h ((lw_gt x y).mp q))
theorem l_teq {x y : Int64} (h : x = y) : ifCond.holds .eq (lcmpW x y) = true ∧ ifCond.holds .ne (lcmpW x y) = false := z_teq ((lw_eq x y).mpr h)
theorem l_feq {x y : Int64} (h : ¬ x = y) : ifCond.holds .eq (lcmpW x y) = false ∧ ifCond.holds .ne (lcmpW x y) = true := z_feq (fun q => h ((lw_eq x y).mp q))
end Own
section OwnA
variable {p : Program} {l : Launch} {e : Env} {R : Room} {s : State} {m : MethodId} {args : Array Value} {below : List Frame} {meth : Method} {c : Code} {T : State} {locs : List Loc} {cells slots : Nat} {Q : Option Value → Heap → List Loc → Prop} {kc ks : Nat} {Z : State} {a0 : Array Value} {h h' : Heap} {a b : Addr} {ty : FieldType} {n : Nat} {f : Nat → Value}
/-- an array of n values: the i-th is f i -/
def OAr (Z : State) (h : Heap) (a : Addr) (ty : FieldType) (n : Nat) (f : Nat → Value) : Prop := ∃ c : Cell, Arr Z h a c ty ∧ c.slots.size = n ∧ ∀ i, i < n → c.slots[i]? = some (f i)
theorem OAr.ext (E : Ext h h') (F : OAr Z h b ty n f) : OAr Z h' b ty n f := by obtain ⟨c, A, r⟩ := F; exact ⟨c, A.ext E, r⟩
theorem OAr.other {sl : Nat} {v : Value} (W : Wr h h' a sl v) (F : OAr Z h b ty n f) (q : b ≠ a) : OAr Z h' b ty n f := by obtain ⟨c, A, r⟩ := F; exact ⟨c, A.other W q, r⟩
theorem OAr.keep {ws : List Addr} (F : OAr Z h b ty n f) (K : Keep h h' ws) (q : b ∉ ws) : OAr Z h' b ty n f := by obtain ⟨c, A, r⟩ := F; exact ⟨c, ⟨K.2.1 b c A.1 q, A.2⟩, r⟩
theorem OAr.lt (F : OAr Z h a ty n f) : a < h.size := by obtain ⟨c, A, -⟩ := F; exact A.lt
theorem OAr.cg {g : Nat → Value} (F : OAr Z h a ty n f) (q : ∀ i, i < n → g i = f i) : OAr Z h a ty n g := by obtain ⟨c, A, r, H⟩ := F; exact ⟨c, A, r, fun i hi => by rw [q i hi]; exact H i hi⟩
theorem OAr.same {j : Nat} {v : Value} (W : Wr h h' a j v) (F : OAr Z h a ty n f) : OAr Z h' a ty n (fun i => if i = j then v else f i) := by
  obtain ⟨c, A, r, H⟩ := F
  refine ⟨_, Arr.same W A, by simp [Cell.setSlot, r], fun i hi => ?_⟩
  obtain ⟨c', h1, -, h3, -⟩ := W
  have hlt : j < c.slots.size := by have := h1.symm.trans A.1; cases this; exact h3
  simp only [Cell.setSlot]
  rw [Array.getElem?_setIfInBounds]
  by_cases q : j = i
  · subst q; simp [hlt]
  · rw [if_neg q, if_neg (fun z => q z.symm)]; exact H i hi
theorem OAr.new {k : ClassId} {z : Int32} (A : Arr Z h a (newA k ty z) ty) : OAr Z h a ty z.toNatClampNeg (fun _ => defaultValue ty) :=
  ⟨_, A, sz_new _ _ _, fun i hi => by simp [newA, hi]⟩
/-- the first values by a list -/
def lk (vs : List Value) (k : Nat) : Value := vs.getD k .null
theorem OAr.setL {vs : List Value} {j : Nat} {v : Value} (W : Wr h h' a j v) (F : OAr Z h a ty n (lk vs)) (hj : j < vs.length) : OAr Z h' a ty n (lk (vs.set j v)) :=
  (OAr.same W F).cg fun i hi => by
    unfold lk
    by_cases q : i = j
    · subst q; simp [hj]
    · simp only [List.getD_eq_getElem?_getD, List.getElem?_set, if_neg q, if_neg (fun z : j = i => q z.symm)]
theorem o_alen (X : Stand p l e R s m args below meth c T locs cells slots) (hx : p.tables.exec = Jvm.exec) (hZ : Z.Warmed39 s.vm) {pc pc' : Nat} {Ls : Array Slot} {rest : List Value} (eT : T.heap = h) (F : OAr Z h a ty n f) (hd : decode c.code pc = .ok (.arraylength, 1)) (z : Int32) (hz : n.toInt32 = z) (hp : pc + 1 = pc') (k : OG p e below s Q kc ks T (mkF m pc' Ls (.int z :: rest))) : OG p e below s Q kc ks T (mkF m pc Ls (.ref a :: rest)) := by
  subst hp hz
  obtain ⟨cl, A, r, H⟩ := F
  exact OG.step (fun t q => X.arraylength hx (by rw [eT]; exact A.1) (State.isArrayOf_alike hZ.alike A.2.1) (g := mkF m pc Ls (.ref a :: rest)) rfl rfl hd t (by rw [r]; exact q)) k
theorem o_newarr (X : Stand p l e R s m args below meth c T locs cells slots) (hx : p.tables.exec = Jvm.exec) (hZ : Z.Warmed39 s.vm) {pc pc' : Nat} {Ls : Array Slot} {rest : List Value} {aty : ArrayType} {z : Int32} (eT : T.heap = h) (w : (Cond.arrayClass (newarray.typeOf aty)).before a0 Z = true) (hd : decode c.code pc = .ok (.newarray aty, 2)) (hn : ¬ z < 0) (cap : Nat) (hcap : z.toNatClampNeg ≤ cap) (hb : cap * 8 ≤ 536870912) (hc : cells + 1 ≤ R.cells) (hl : slots + cap ≤ R.slots) (hp : pc + 2 = pc')
    (k : ∀ T' h' a, Stand p l e R s m args below meth c T' locs (cells + 1) (slots + cap) → T'.heap = h' → a = h.size → Ext h h' → OAr Z h' a (newarray.typeOf aty) z.toNatClampNeg (fun _ => defaultValue (newarray.typeOf aty)) → OG p e below s Q kc ks T' (mkF m pc' Ls (.ref a :: rest))) : OG p e below s Q kc ks T (mkF m pc Ls (.int z :: rest)) := by
  subst hp
  obtain ⟨T1, h1, cA, X1, e1, E1, A1, st1⟩ := newP X hx hZ w eT (g := mkF m pc Ls (.int z :: rest)) rfl hd rfl hn hcap hb hc hl
  exact OG.step st1 (k T1 h1 _ X1 e1 rfl E1 (OAr.new A1))
theorem o_inb {cl : Cell} {j : Int32} (r : cl.slots.size = n) (hj : ¬ j < 0) (hlt : j.toNatClampNeg < n) : ¬ (j < 0 ∨ cl.slots.size ≤ j.toNatClampNeg) := by
  rintro (q | q)
  · exact hj q
  · omega
theorem o_iaload (X : Stand p l e R s m args below meth c T locs cells slots) (hx : p.tables.exec = Jvm.exec) (hZ : Z.Warmed39 s.vm) {pc pc' : Nat} {Ls : Array Slot} {rest : List Value} {j : Int32} (eT : T.heap = h) (F : OAr Z h a .int n f) (hd : decode c.code pc = .ok (.iaload, 1)) (hj : ¬ j < 0) (hlt : j.toNatClampNeg < n) (x : Int32) (hv : f j.toNatClampNeg = .int x) (hp : pc + 1 = pc') (k : OG p e below s Q kc ks T (mkF m pc' Ls (.int x :: rest))) : OG p e below s Q kc ks T (mkF m pc Ls (.int j :: .ref a :: rest)) := by
  subst hp
  obtain ⟨cl, A, r, H⟩ := F
  exact OG.step (fun t q => X.iaload hx (j := j) (v := .int x) (by rw [eT]; exact A.1) (State.isArrayOf_alike hZ.alike A.2.1) A.2.2 (o_inb r hj hlt) (by rw [H _ hlt, hv]) (g := mkF m pc Ls (.int j :: .ref a :: rest)) rfl rfl hd t q) k
theorem o_laload (X : Stand p l e R s m args below meth c T locs cells slots) (hx : p.tables.exec = Jvm.exec) (hZ : Z.Warmed39 s.vm) {pc pc' : Nat} {Ls : Array Slot} {rest : List Value} {j : Int32} (eT : T.heap = h) (F : OAr Z h a .long n f) (hd : decode c.code pc = .ok (.laload, 1)) (hj : ¬ j < 0) (hlt : j.toNatClampNeg < n) (x : Int64) (hv : f j.toNatClampNeg = .long x) (hp : pc + 1 = pc') (k : OG p e below s Q kc ks T (mkF m pc' Ls (.long x :: rest))) : OG p e below s Q kc ks T (mkF m pc Ls (.int j :: .ref a :: rest)) := by
  subst hp
  obtain ⟨cl, A, r, H⟩ := F
  exact OG.step (fun t q => X.laload hx (j := j) (v := .long x) (by rw [eT]; exact A.1) (State.isArrayOf_alike hZ.alike A.2.1) A.2.2 (o_inb r hj hlt) (by rw [H _ hlt, hv]) (g := mkF m pc Ls (.int j :: .ref a :: rest)) rfl rfl hd t q) k
theorem o_caload (X : Stand p l e R s m args below meth c T locs cells slots) (hx : p.tables.exec = Jvm.exec) (hZ : Z.Warmed39 s.vm) {pc pc' : Nat} {Ls : Array Slot} {rest : List Value} {j : Int32} (eT : T.heap = h) (F : OAr Z h a .char n f) (hd : decode c.code pc = .ok (.caload, 1)) (hj : ¬ j < 0) (hlt : j.toNatClampNeg < n) (x : Int32) (hv : f j.toNatClampNeg = .int x) (hp : pc + 1 = pc') (k : OG p e below s Q kc ks T (mkF m pc' Ls (.int x :: rest))) : OG p e below s Q kc ks T (mkF m pc Ls (.int j :: .ref a :: rest)) := by
  subst hp
  obtain ⟨cl, A, r, H⟩ := F
  exact OG.step (fun t q => X.caload hx (j := j) (v := .int x) (by rw [eT]; exact A.1) (State.isArrayOf_alike hZ.alike A.2.1) A.2.2 (o_inb r hj hlt) (by rw [H _ hlt, hv]) (g := mkF m pc Ls (.int j :: .ref a :: rest)) rfl rfl hd t q) k
theorem o_baload (X : Stand p l e R s m args below meth c T locs cells slots) (hx : p.tables.exec = Jvm.exec) (hZ : Z.Warmed39 s.vm) {pc pc' : Nat} {Ls : Array Slot} {rest : List Value} {j : Int32} (eT : T.heap = h) (F : OAr Z h a .byte n f) (hd : decode c.code pc = .ok (.baload, 1)) (hj : ¬ j < 0) (hlt : j.toNatClampNeg < n) (x : Int32) (hv : f j.toNatClampNeg = .int x) (hp : pc + 1 = pc') (k : OG p e below s Q kc ks T (mkF m pc' Ls (.int x :: rest))) : OG p e below s Q kc ks T (mkF m pc Ls (.int j :: .ref a :: rest)) := by
  subst hp
  obtain ⟨cl, A, r, H⟩ := F
  exact OG.step (fun t q => X.baloadBytes hx (j := j) (v := .int x) (by rw [eT]; exact A.1) (State.isArrayOf_alike hZ.alike A.2.1) A.2.2 (o_inb r hj hlt) (by rw [H _ hlt, hv]) (g := mkF m pc Ls (.int j :: .ref a :: rest)) rfl rfl hd t q) k
theorem o_iastore (X : Stand p l e R s m args below meth c T locs cells slots) (hx : p.tables.exec = Jvm.exec) (hZ : Z.Warmed39 s.vm) {pc pc' : Nat} {Ls : Array Slot} {rest : List Value} {j : Int32} {x : Int32} (eT : T.heap = h) (F : OAr Z h a .int n f) (hd : decode c.code pc = .ok (.iastore, 1)) (hj : ¬ j < 0) (hlt : j.toNatClampNeg < n) (hp : pc + 1 = pc')
    (k : ∀ T' h', Stand p l e R s m args below meth c T' (locs ++ [⟨a, j.toNatClampNeg⟩]) cells slots → T'.heap = h' → Wr h h' a j.toNatClampNeg (.int x) → OG p e below s Q kc ks T' (mkF m pc' Ls rest)) : OG p e below s Q kc ks T (mkF m pc Ls (.int x :: .int j :: .ref a :: rest)) := by
  subst hp
  obtain ⟨cl, A, r, H⟩ := F
  obtain ⟨T1, h1, X1, e1, W1, st1⟩ := stI X hx hZ eT A (o_inb r hj hlt) (g := mkF m pc Ls (.int x :: .int j :: .ref a :: rest)) rfl rfl hd
  exact OG.step st1 (k T1 h1 X1 e1 W1)
theorem o_lastore (X : Stand p l e R s m args below meth c T locs cells slots) (hx : p.tables.exec = Jvm.exec) (hZ : Z.Warmed39 s.vm) {pc pc' : Nat} {Ls : Array Slot} {rest : List Value} {j : Int32} {x : Int64} (eT : T.heap = h) (F : OAr Z h a .long n f) (hd : decode c.code pc = .ok (.lastore, 1)) (hj : ¬ j < 0) (hlt : j.toNatClampNeg < n) (hp : pc + 1 = pc')
    (k : ∀ T' h', Stand p l e R s m args below meth c T' (locs ++ [⟨a, j.toNatClampNeg⟩]) cells slots → T'.heap = h' → Wr h h' a j.toNatClampNeg (.long x) → OG p e below s Q kc ks T' (mkF m pc' Ls rest)) : OG p e below s Q kc ks T (mkF m pc Ls (.long x :: .int j :: .ref a :: rest)) := by
  subst hp
  obtain ⟨cl, A, r, H⟩ := F
  obtain ⟨T1, h1, X1, e1, W1, st1⟩ := stJ X hx hZ eT A (o_inb r hj hlt) (g := mkF m pc Ls (.long x :: .int j :: .ref a :: rest)) rfl rfl hd
  exact OG.step st1 (k T1 h1 X1 e1 W1)
theorem o_castore (X : Stand p l e R s m args below meth c T locs cells slots) (hx : p.tables.exec = Jvm.exec) (hZ : Z.Warmed39 s.vm) {pc pc' : Nat} {Ls : Array Slot} {rest : List Value} {j : Int32} {x : Int32} (eT : T.heap = h) (F : OAr Z h a .char n f) (hd : decode c.code pc = .ok (.castore, 1)) (hj : ¬ j < 0) (hlt : j.toNatClampNeg < n) (hp : pc + 1 = pc')
    (k : ∀ T' h', Stand p l e R s m args below meth c T' (locs ++ [⟨a, j.toNatClampNeg⟩]) cells slots → T'.heap = h' → Wr h h' a j.toNatClampNeg (.int (nar .char x)) → OG p e below s Q kc ks T' (mkF m pc' Ls rest)) : OG p e below s Q kc ks T (mkF m pc Ls (.int x :: .int j :: .ref a :: rest)) := by
  subst hp
  obtain ⟨cl, A, r, H⟩ := F
  obtain ⟨T1, h1, X1, e1, W1, st1⟩ := stC X hx hZ eT A (o_inb r hj hlt) (g := mkF m pc Ls (.int x :: .int j :: .ref a :: rest)) rfl rfl hd
  exact OG.step st1 (k T1 h1 X1 e1 W1)
theorem o_bastore (X : Stand p l e R s m args below meth c T locs cells slots) (hx : p.tables.exec = Jvm.exec) (hZ : Z.Warmed39 s.vm) {pc pc' : Nat} {Ls : Array Slot} {rest : List Value} {j : Int32} {x : Int32} (eT : T.heap = h) (F : OAr Z h a .byte n f) (hd : decode c.code pc = .ok (.bastore, 1)) (hj : ¬ j < 0) (hlt : j.toNatClampNeg < n) (hp : pc + 1 = pc')
    (k : ∀ T' h', Stand p l e R s m args below meth c T' (locs ++ [⟨a, j.toNatClampNeg⟩]) cells slots → T'.heap = h' → Wr h h' a j.toNatClampNeg (.int (nar .byte x)) → OG p e below s Q kc ks T' (mkF m pc' Ls rest)) : OG p e below s Q kc ks T (mkF m pc Ls (.int x :: .int j :: .ref a :: rest)) := by
  subst hp
  obtain ⟨cl, A, r, H⟩ := F
  obtain ⟨T1, h1, X1, e1, W1, st1⟩ := stB X hx hZ eT A (o_inb r hj hlt) (g := mkF m pc Ls (.int x :: .int j :: .ref a :: rest)) rfl rfl hd
  exact OG.step st1 (k T1 h1 X1 e1 W1)
theorem o_private (X : Stand p l e R s m args below meth c T locs cells slots) (hx : p.tables.exec = Jvm.exec) (hZ : Z.Warmed39 s.vm) {own : String} {index kk : Nat} {y : MethodName} {bytes : ByteArray} {maxL : Nat} {ret : Option FieldType} {rm : Room} {Qc : Option Value → Heap → List Loc → Prop} {argsL rest st : List Value} {pc pc' : Nat} {Ls : Array Slot} (W : Nat)
    (hown : s.vm.findClass own = some m.cls) (eT : T.heap = h) (hlink : (Cond.methodLink own index y).before a0 Z = true) (hinst : (Cond.instanceMethod y).before a0 Z = true) (hpriv : (Cond.privateMethod y).before a0 Z = true) (wi : (Cond.instantiable y.cls kk).before a0 Z = true) (hinit : (Cond.initialized y.cls).before a0 Z = true) (hcode : (Cond.code y bytes maxL ret).before a0 Z = true) (hy : y.cls ≠ "java/lang/invoke/MethodHandle" ∧ y.cls ≠ "java/lang/invoke/VarHandle")
    (E : Exa Z h a y.cls)
    (hM : MetFree l y (head1 [Cond.code y bytes maxL ret] rm) (fun b U => b = (.ref a :: argsL).toArray ∧ Z.Warmed39 U.vm ∧ U.heap = h) (fun _ _ _ _ _ => True) (fun _ U o U' => ∃ v L, o = .returned v ∧ Qc v U'.heap L ∧ FrameEnd U o U' L rm.cells rm.slots)) (hf : rm.frames + 1 ≤ R.frames) (hl : W + (maxL + 11) + rm.locals ≤ R.locals)
    (hsize : Ls.size = c.maxLocals) (hlen : ∀ sig, parseMethodDescriptor y.desc = some sig → argsL.length = sig.parameters.length) (hs : st = argsL.reverse ++ .ref a :: rest) (hW : (rest.map fun v => v.category).sum ≤ W) (hd : decode c.code pc = .ok (.invokevirtual index, 3)) (hp : pc + 3 = pc') (hc : cells + rm.cells ≤ R.cells) (hsl : slots + rm.slots ≤ R.slots)
    (k : ∀ v T' L, Stand p l e R s m args below meth c T' (locs ++ L) (cells + rm.cells) (slots + rm.slots) → Qc v T'.heap L → OG p e below s Q kc ks T' (mkF m pc' Ls (v.toList ++ rest))) : OG p e below s Q kc ks T (mkF m pc Ls st) := by
  subst hp hs
  obtain ⟨cq, q1, q2⟩ := E.cell
  have hpa := Cond.privateMethod_at (mvP hZ hpriv (args := args))
  obtain ⟨cI, kI, i1, i2, -, i4, -⟩ := Cond.instantiable_spec (mvT hZ wi : (Cond.instantiable y.cls kk).before args s = true)
  have hni : kI.isInterface = false := (Bool.or_eq_false_iff.mp i4).1
  have hsel := selects_self_of_private (args := args) i1 i2 hni hpa (mvT hZ hinst) hy
  obtain ⟨v, vm₁, ⟨T1, L1, c1, n1⟩, -, X1, ⟨Lc, hQ, l1, y1, z1⟩, st⟩ := X.privateBack hx (y := y) hown (mvT hZ hlink) (mvT hZ hinst) hsel hpa (mvT hZ hcode) hy (backOf (W := W) hM hZ hcode hinit hf hl) (g := mkF m pc Ls (argsL.reverse ++ .ref a :: rest)) rfl hsize (Steps.refl _) (a := a) (by rw [eT]; exact q1) q2 (argsL := argsL) (rest := rest) hlen rfl (by show 2 * 0 + _ ≤ _; omega) hd (fun _ _ => ⟨rfl, eT, hc, hsl⟩)
  dsimp only [Pt.U, Pt.locs, Pt.cells, Pt.slots] at X1 l1 y1 z1 st hQ
  subst l1 y1 z1
  exact OG.step (fun t q => st.trans q) (k v T1 Lc X1 hQ)
end OwnA
section OwnB
def ci (c : Nat → Int32) : Nat → Value := fun i => .int (c i)
def cj (c : Nat → Int64) : Nat → Value := fun i => .long (c i)
def li (vs : List Int32) (i : Nat) : Int32 := vs.getD i 0
def upd (c : Nat → Int32) (j : Nat) (x : Int32) : Nat → Int32 := fun i => if i = j then x else c i
def updJ (c : Nat → Int64) (j : Nat) (x : Int64) : Nat → Int64 := fun i => if i = j then x else c i
variable {Z : State} {h h' : Heap} {a : Addr} {ty : FieldType} {n : Nat}
theorem OAr.setI {vs : List Int32} {j : Nat} {x : Int32} (W : Wr h h' a j (.int x)) (F : OAr Z h a ty n (ci (li vs))) (hj : j < vs.length) : OAr Z h' a ty n (ci (li (vs.set j x))) :=
  (OAr.same W F).cg fun i hi => by
    unfold ci li
    by_cases q : i = j
    · subst q; simp [hj]
    · simp only [List.getD_eq_getElem?_getD, List.getElem?_set, if_neg q, if_neg (fun z : j = i => q z.symm)]
theorem OAr.updI {c : Nat → Int32} {j : Nat} {x : Int32} (W : Wr h h' a j (.int x)) (F : OAr Z h a ty n (ci c)) : OAr Z h' a ty n (ci (upd c j x)) :=
  (OAr.same W F).cg fun i hi => by unfold ci upd; split <;> rfl
theorem OAr.updJ {c : Nat → Int64} {j : Nat} {x : Int64} (W : Wr h h' a j (.long x)) (F : OAr Z h a ty n (cj c)) : OAr Z h' a ty n (cj (updJ c j x)) :=
  (OAr.same W F).cg fun i hi => by unfold cj Jvm.Pilot.@@N@@.updJ; split <;> rfl
theorem OAr.zeros {k : Nat} (F : OAr Z h a ty n (fun _ => .int 0)) : OAr Z h a ty n (ci (li (List.replicate k 0))) :=
  F.cg fun i hi => by unfold ci li; by_cases q : i < k <;> simp [q]
theorem own_back {z : Int32} (q : ¬ z < 0) : z.toNatClampNeg.toInt32 = z := (back32 q).1
end OwnB

theorem d1_0 : decode prog_36_method_1_code 0 = .ok (.aload_n 0, 1) := by decide +kernel
theorem d1_1 : decode prog_36_method_1_code 1 = .ok (.invokespecial 1, 3) := by decide +kernel
theorem d1_4 : decode prog_36_method_1_code 4 = .ok (.aload_n 0, 1) := by decide +kernel
theorem d1_5 : decode prog_36_method_1_code 5 = .ok (.iconst 3, 1) := by decide +kernel
theorem d1_6 : decode prog_36_method_1_code 6 = .ok (.iload_n 1, 1) := by decide +kernel
theorem d1_7 : decode prog_36_method_1_code 7 = .ok (.imul, 1) := by decide +kernel
theorem d1_8 : decode prog_36_method_1_code 8 = .ok (.newarray .long, 2) := by decide +kernel
theorem d1_10 : decode prog_36_method_1_code 10 = .ok (.putfield 7, 3) := by decide +kernel
theorem d1_13 : decode prog_36_method_1_code 13 = .ok (.iconst 0, 1) := by decide +kernel
theorem d1_14 : decode prog_36_method_1_code 14 = .ok (.istore_n 2, 1) := by decide +kernel
theorem d1_15 : decode prog_36_method_1_code 15 = .ok (.iload_n 2, 1) := by decide +kernel
theorem d1_16 : decode prog_36_method_1_code 16 = .ok (.aload_n 0, 1) := by decide +kernel
theorem d1_17 : decode prog_36_method_1_code 17 = .ok (.getfield 7, 3) := by decide +kernel
theorem d1_20 : decode prog_36_method_1_code 20 = .ok (.arraylength, 1) := by decide +kernel
theorem d1_21 : decode prog_36_method_1_code 21 = .ok (.if_icmp .ge 25, 3) := by decide +kernel
theorem d1_24 : decode prog_36_method_1_code 24 = .ok (.aload_n 0, 1) := by decide +kernel
theorem d1_25 : decode prog_36_method_1_code 25 = .ok (.getfield 7, 3) := by decide +kernel
theorem d1_28 : decode prog_36_method_1_code 28 = .ok (.iload_n 2, 1) := by decide +kernel
theorem d1_29 : decode prog_36_method_1_code 29 = .ok (.iload_n 2, 1) := by decide +kernel
theorem d1_30 : decode prog_36_method_1_code 30 = .ok (.iconst 3, 1) := by decide +kernel
theorem d1_31 : decode prog_36_method_1_code 31 = .ok (.idiv, 1) := by decide +kernel
theorem d1_32 : decode prog_36_method_1_code 32 = .ok (.iconst 2, 1) := by decide +kernel
theorem d1_33 : decode prog_36_method_1_code 33 = .ok (.ishl, 1) := by decide +kernel
theorem d1_34 : decode prog_36_method_1_code 34 = .ok (.iload_n 2, 1) := by decide +kernel
theorem d1_35 : decode prog_36_method_1_code 35 = .ok (.iconst 3, 1) := by decide +kernel
theorem d1_36 : decode prog_36_method_1_code 36 = .ok (.irem, 1) := by decide +kernel
theorem d1_37 : decode prog_36_method_1_code 37 = .ok (.ior, 1) := by decide +kernel
theorem d1_38 : decode prog_36_method_1_code 38 = .ok (.i2l, 1) := by decide +kernel
theorem d1_39 : decode prog_36_method_1_code 39 = .ok (.lastore, 1) := by decide +kernel
theorem d1_40 : decode prog_36_method_1_code 40 = .ok (.iinc 2 1, 3) := by decide +kernel
theorem d1_43 : decode prog_36_method_1_code 43 = .ok (.goto (-28), 3) := by decide +kernel
theorem d1_46 : decode prog_36_method_1_code 46 = .ok (.aload_n 0, 1) := by decide +kernel
theorem d1_47 : decode prog_36_method_1_code 47 = .ok (.iconst 3, 1) := by decide +kernel
theorem d1_48 : decode prog_36_method_1_code 48 = .ok (.iload_n 1, 1) := by decide +kernel
theorem d1_49 : decode prog_36_method_1_code 49 = .ok (.imul, 1) := by decide +kernel
theorem d1_50 : decode prog_36_method_1_code 50 = .ok (.newarray .int, 2) := by decide +kernel
theorem d1_52 : decode prog_36_method_1_code 52 = .ok (.putfield 13, 3) := by decide +kernel
theorem d1_55 : decode prog_36_method_1_code 55 = .ok (.aload_n 0, 1) := by decide +kernel
theorem d1_56 : decode prog_36_method_1_code 56 = .ok (.iload_n 1, 1) := by decide +kernel
theorem d1_57 : decode prog_36_method_1_code 57 = .ok (.newarray .int, 2) := by decide +kernel
theorem d1_59 : decode prog_36_method_1_code 59 = .ok (.putfield 17, 3) := by decide +kernel
theorem d1_62 : decode prog_36_method_1_code 62 = .ok (.aload_n 0, 1) := by decide +kernel
theorem d1_63 : decode prog_36_method_1_code 63 = .ok (.iload_n 1, 1) := by decide +kernel
theorem d1_64 : decode prog_36_method_1_code 64 = .ok (.newarray .int, 2) := by decide +kernel
theorem d1_66 : decode prog_36_method_1_code 66 = .ok (.putfield 20, 3) := by decide +kernel
theorem d1_69 : decode prog_36_method_1_code 69 = .ok (.aload_n 0, 1) := by decide +kernel
theorem d1_70 : decode prog_36_method_1_code 70 = .ok (.iload_n 1, 1) := by decide +kernel
theorem d1_71 : decode prog_36_method_1_code 71 = .ok (.newarray .int, 2) := by decide +kernel
theorem d1_73 : decode prog_36_method_1_code 73 = .ok (.putfield 23, 3) := by decide +kernel
theorem d1_76 : decode prog_36_method_1_code 76 = .ok (.aload_n 0, 1) := by decide +kernel
theorem d1_77 : decode prog_36_method_1_code 77 = .ok (.iload_n 1, 1) := by decide +kernel
theorem d1_78 : decode prog_36_method_1_code 78 = .ok (.newarray .int, 2) := by decide +kernel
theorem d1_80 : decode prog_36_method_1_code 80 = .ok (.putfield 26, 3) := by decide +kernel
theorem d1_83 : decode prog_36_method_1_code 83 = .ok (.aload_n 0, 1) := by decide +kernel
theorem d1_84 : decode prog_36_method_1_code 84 = .ok (.iload_n 1, 1) := by decide +kernel
theorem d1_85 : decode prog_36_method_1_code 85 = .ok (.newarray .int, 2) := by decide +kernel
theorem d1_87 : decode prog_36_method_1_code 87 = .ok (.putfield 29, 3) := by decide +kernel
theorem d1_90 : decode prog_36_method_1_code 90 = .ok (.aload_n 0, 1) := by decide +kernel
theorem d1_91 : decode prog_36_method_1_code 91 = .ok (.iload_n 1, 1) := by decide +kernel
theorem d1_92 : decode prog_36_method_1_code 92 = .ok (.newarray .int, 2) := by decide +kernel
theorem d1_94 : decode prog_36_method_1_code 94 = .ok (.putfield 32, 3) := by decide +kernel
theorem d1_97 : decode prog_36_method_1_code 97 = .ok (.aload_n 0, 1) := by decide +kernel
theorem d1_98 : decode prog_36_method_1_code 98 = .ok (.iconst 3, 1) := by decide +kernel
theorem d1_99 : decode prog_36_method_1_code 99 = .ok (.iload_n 1, 1) := by decide +kernel
theorem d1_100 : decode prog_36_method_1_code 100 = .ok (.imul, 1) := by decide +kernel
theorem d1_101 : decode prog_36_method_1_code 101 = .ok (.newarray .long, 2) := by decide +kernel
theorem d1_103 : decode prog_36_method_1_code 103 = .ok (.putfield 35, 3) := by decide +kernel
theorem d1_106 : decode prog_36_method_1_code 106 = .ok (.aload_n 0, 1) := by decide +kernel
theorem d1_107 : decode prog_36_method_1_code 107 = .ok (.iconst 3, 1) := by decide +kernel
theorem d1_108 : decode prog_36_method_1_code 108 = .ok (.iload_n 1, 1) := by decide +kernel
theorem d1_109 : decode prog_36_method_1_code 109 = .ok (.imul, 1) := by decide +kernel
theorem d1_110 : decode prog_36_method_1_code 110 = .ok (.newarray .long, 2) := by decide +kernel
theorem d1_112 : decode prog_36_method_1_code 112 = .ok (.putfield 38, 3) := by decide +kernel
theorem d1_115 : decode prog_36_method_1_code 115 = .ok (.aload_n 0, 1) := by decide +kernel
theorem d1_116 : decode prog_36_method_1_code 116 = .ok (.iconst 3, 1) := by decide +kernel
theorem d1_117 : decode prog_36_method_1_code 117 = .ok (.iload_n 1, 1) := by decide +kernel
theorem d1_118 : decode prog_36_method_1_code 118 = .ok (.imul, 1) := by decide +kernel
theorem d1_119 : decode prog_36_method_1_code 119 = .ok (.newarray .long, 2) := by decide +kernel
theorem d1_121 : decode prog_36_method_1_code 121 = .ok (.putfield 41, 3) := by decide +kernel
theorem d1_124 : decode prog_36_method_1_code 124 = .ok (.return_, 1) := by decide +kernel
def f1_15a : Nat → (Nat → Int64) → Int32 → Int32 → Int32 → Option (Nat × (Nat → Int32))
  | 0, _, _, _, _ => none
  | k + 1, c_a2, z_a2, x1, x2 => (if x2 < z_a2 then (if (¬ (x2 < 0) ∧ Int32.toNatClampNeg x2 < (Int32.toNatClampNeg z_a2)) then (f1_15a k (updJ c_a2 (Int32.toNatClampNeg x2) ((((x2 / (3 : Int32)) <<< ((2 : Int32) &&& 31)) ||| (x2 % (3 : Int32))).toInt64)) z_a2 x1 (x2 + (1 : Int32))) else none) else (if (¬ (((3 : Int32) * x1) < 0) ∧ ((3 : Int32) * x1).toNatClampNeg ≤ 12) then (if (¬ (x1 < 0) ∧ x1.toNatClampNeg ≤ 4) then (if (¬ (x1 < 0) ∧ x1.toNatClampNeg ≤ 4) then (if (¬ (x1 < 0) ∧ x1.toNatClampNeg ≤ 4) then (if (¬ (x1 < 0) ∧ x1.toNatClampNeg ≤ 4) then (if (¬ (x1 < 0) ∧ x1.toNatClampNeg ≤ 4) then (if (¬ (x1 < 0) ∧ x1.toNatClampNeg ≤ 4) then (if (¬ (((3 : Int32) * x1) < 0) ∧ ((3 : Int32) * x1).toNatClampNeg ≤ 12) then (if (¬ (((3 : Int32) * x1) < 0) ∧ ((3 : Int32) * x1).toNatClampNeg ≤ 12) then (if (¬ (((3 : Int32) * x1) < 0) ∧ ((3 : Int32) * x1).toNatClampNeg ≤ 12) then (some ((Int32.toNatClampNeg ((3 : Int32) * x1)), (fun _ => 0))) else none) else none) else none) else none) else none) else none) else none) else none) else none) else none))
set_option maxRecDepth 65536 in
set_option maxHeartbeats 40000000 in
theorem b1_15a {p : Program} {l : Launch} {e : Env} {s : State} {m : MethodId} {args : Array Value} {below : List Frame} {meth : Method} {c : Code} {Z : State} {a0 : Array Value} {h0 : Heap} {n0 : Nat} (hx : p.tables.exec = Jvm.exec) (hZ : Z.Warmed39 s.vm) (hw : ∀ d ∈ tables_1, d.before a0 Z = true) (hby : c.code = prog_36_method_1_code) (hml : c.maxLocals = 3) (hown : s.vm.findClass "com/example/ridgeline/ridgeline/filtering/Places" = some m.cls) (hnm : meth.name = "<init>") (hret : meth.sig.returnType = none) (hlk : meth.locks = false) (o0 : Addr) : ∀ (k : Nat) {T : State} {locs : List Loc} {h : Heap} (u_times : Value) (u_startPlaces : Value) (u_endPlaces : Value) (u_closePlaces : Value) (u_byStart : Value) (u_byEnd : Value) (u_byLatestEnd : Value) (u_asked : Value) (u_open : Value) (u_ending : Value) (a2 : Addr) (c_a2 : Nat → Int64) (z_a2 : Int32) (x1 : Int32) (x2 : Int32) (r : Nat × (Nat → Int32)) (X : Stand p l e ({ frames := 1, cells := 11, slots := 84, locals := 12 } : Room) s m args below meth c T locs 1 12) (eT : T.heap = h) (N : Fr n0 locs) (hsz : n0 ≤ h.size) (K : Keep h0 h [o0]) (E_o0 : Exa Z h o0 "com/example/ridgeline/ridgeline/filtering/Places") (F_o0_keys : Fld Z h o0 "com/example/ridgeline/ridgeline/filtering/Places" "keys" "[J" (.ref a2)) (F_o0_times : Fld Z h o0 "com/example/ridgeline/ridgeline/filtering/Places" "times" "[I" u_times) (F_o0_startPlaces : Fld Z h o0 "com/example/ridgeline/ridgeline/filtering/Places" "startPlaces" "[I" u_startPlaces) (F_o0_endPlaces : Fld Z h o0 "com/example/ridgeline/ridgeline/filtering/Places" "endPlaces" "[I" u_endPlaces) (F_o0_closePlaces : Fld Z h o0 "com/example/ridgeline/ridgeline/filtering/Places" "closePlaces" "[I" u_closePlaces) (F_o0_byStart : Fld Z h o0 "com/example/ridgeline/ridgeline/filtering/Places" "byStart" "[I" u_byStart) (F_o0_byEnd : Fld Z h o0 "com/example/ridgeline/ridgeline/filtering/Places" "byEnd" "[I" u_byEnd) (F_o0_byLatestEnd : Fld Z h o0 "com/example/ridgeline/ridgeline/filtering/Places" "byLatestEnd" "[I" u_byLatestEnd) (F_o0_asked : Fld Z h o0 "com/example/ridgeline/ridgeline/filtering/Places" "asked" "[J" u_asked) (F_o0_open : Fld Z h o0 "com/example/ridgeline/ridgeline/filtering/Places" "open" "[J" u_open) (F_o0_ending : Fld Z h o0 "com/example/ridgeline/ridgeline/filtering/Places" "ending" "[J" u_ending) (g_o0 : n0 ≤ o0) (A_a2 : OAr Z h a2 .long (Int32.toNatClampNeg z_a2) (cj c_a2)) (hn_a2 : ¬ (z_a2 < 0)) (g_a2 : n0 ≤ a2) (s_a2 : h0.size ≤ a2) (ne_o0_a2 : o0 ≠ a2) (hr : f1_15a k c_a2 z_a2 x1 x2 = some r),
    OG p e below s (fun v h L => v = none ∧ Fr n0 L ∧ Keep h0 h [o0] ∧ Exa Z h o0 "com/example/ridgeline/ridgeline/filtering/Places" ∧ (∃ b : Addr, n0 ≤ b ∧ Fld Z h o0 "com/example/ridgeline/ridgeline/filtering/Places" "times" "[I" (.ref b) ∧ OAr Z h b .int r.1 (ci r.2))) 11 84 T (mkF m 15 #[.val (.ref o0), .val (.int x1), .val (.int x2)] []) := by
  intro k
  induction k with
  | zero => intros; rename_i hr; exact absurd hr (by intro q; cases q)
  | succ k ih =>
    intro T locs h u_times u_startPlaces u_endPlaces u_closePlaces u_byStart u_byEnd u_byLatestEnd u_asked u_open u_ending a2 c_a2 z_a2 x1 x2 r X eT N hsz K E_o0 F_o0_keys F_o0_times F_o0_startPlaces F_o0_endPlaces F_o0_closePlaces F_o0_byStart F_o0_byEnd F_o0_byLatestEnd F_o0_asked F_o0_open F_o0_ending g_o0 A_a2 hn_a2 g_a2 s_a2 ne_o0_a2 hr
    have hr : (if x2 < z_a2 then (if (¬ (x2 < 0) ∧ Int32.toNatClampNeg x2 < (Int32.toNatClampNeg z_a2)) then (f1_15a k (updJ c_a2 (Int32.toNatClampNeg x2) ((((x2 / (3 : Int32)) <<< ((2 : Int32) &&& 31)) ||| (x2 % (3 : Int32))).toInt64)) z_a2 x1 (x2 + (1 : Int32))) else none) else (if (¬ (((3 : Int32) * x1) < 0) ∧ ((3 : Int32) * x1).toNatClampNeg ≤ 12) then (if (¬ (x1 < 0) ∧ x1.toNatClampNeg ≤ 4) then (if (¬ (x1 < 0) ∧ x1.toNatClampNeg ≤ 4) then (if (¬ (x1 < 0) ∧ x1.toNatClampNeg ≤ 4) then (if (¬ (x1 < 0) ∧ x1.toNatClampNeg ≤ 4) then (if (¬ (x1 < 0) ∧ x1.toNatClampNeg ≤ 4) then (if (¬ (x1 < 0) ∧ x1.toNatClampNeg ≤ 4) then (if (¬ (((3 : Int32) * x1) < 0) ∧ ((3 : Int32) * x1).toNatClampNeg ≤ 12) then (if (¬ (((3 : Int32) * x1) < 0) ∧ ((3 : Int32) * x1).toNatClampNeg ≤ 12) then (if (¬ (((3 : Int32) * x1) < 0) ∧ ((3 : Int32) * x1).toNatClampNeg ≤ 12) then (some ((Int32.toNatClampNeg ((3 : Int32) * x1)), (fun _ => 0))) else none) else none) else none) else none) else none) else none) else none) else none) else none) else none)) = some r := hr
    refine o_iload_n X hx (hb hby d1_15) rfl (pc' := 16) rfl ?_
    refine o_aload_n X hx (hb hby d1_16) rfl rfl (pc' := 17) rfl ?_
    refine o_getF X hx hZ hown eT (hw _ (List.mem_of_getElem? (i := 11) rfl)) Via.refl F_o0_keys (hb hby d1_17) (pc' := 20) rfl ?_
    intro T10 X10 e10
    refine o_alen X10 hx hZ e10 A_a2 (hb hby d1_20) z_a2 (own_back hn_a2) (pc' := 21) rfl ?_
    by_cases hc11 : x2 < z_a2
    · rw [if_pos hc11] at hr
      refine o_icmpNo X10 hx (hb hby d1_21) (c_tlt hc11).2 (pc' := 24) rfl ?_
      refine o_aload_n X10 hx (hb hby d1_24) rfl rfl (pc' := 25) rfl ?_
      refine o_getF X10 hx hZ hown e10 (hw _ (List.mem_of_getElem? (i := 11) rfl)) Via.refl F_o0_keys (hb hby d1_25) (pc' := 28) rfl ?_
      intro T12 X12 e12
      refine o_iload_n X12 hx (hb hby d1_28) rfl (pc' := 29) rfl ?_
      refine o_iload_n X12 hx (hb hby d1_29) rfl (pc' := 30) rfl ?_
      refine o_iconst X12 hx (hb hby d1_30) (3 : Int32) rfl (pc' := 31) rfl ?_
      refine o_idiv X12 hx (hb hby d1_31) (by decide) (pc' := 32) rfl ?_
      refine o_iconst X12 hx (hb hby d1_32) (2 : Int32) rfl (pc' := 33) rfl ?_
      refine o_ishl X12 hx (hb hby d1_33) (pc' := 34) rfl ?_
      refine o_iload_n X12 hx (hb hby d1_34) rfl (pc' := 35) rfl ?_
      refine o_iconst X12 hx (hb hby d1_35) (3 : Int32) rfl (pc' := 36) rfl ?_
      refine o_irem X12 hx (hb hby d1_36) (by decide) (pc' := 37) rfl ?_
      refine o_ior X12 hx (hb hby d1_37) (pc' := 38) rfl ?_
      refine o_i2l X12 hx (hb hby d1_38) (pc' := 39) rfl ?_
      by_cases hg13 : (¬ (x2 < 0) ∧ Int32.toNatClampNeg x2 < (Int32.toNatClampNeg z_a2))
      case neg => rw [if_neg hg13] at hr; cases hr
      rw [if_pos hg13] at hr
      refine o_lastore X12 hx hZ e12 A_a2 (hb hby d1_39) (And.left hg13) (And.right hg13) (pc' := 40) rfl ?_
      intro T14 h14 X14 e14 W14
      have A14_o0 := Exa.wr W14 E_o0
      have F14_o0_keys := Fld.other W14 F_o0_keys (Or.inl ne_o0_a2)
      have F14_o0_times := Fld.other W14 F_o0_times (Or.inl ne_o0_a2)
      have F14_o0_startPlaces := Fld.other W14 F_o0_startPlaces (Or.inl ne_o0_a2)
      have F14_o0_endPlaces := Fld.other W14 F_o0_endPlaces (Or.inl ne_o0_a2)
      have F14_o0_closePlaces := Fld.other W14 F_o0_closePlaces (Or.inl ne_o0_a2)
      have F14_o0_byStart := Fld.other W14 F_o0_byStart (Or.inl ne_o0_a2)
      have F14_o0_byEnd := Fld.other W14 F_o0_byEnd (Or.inl ne_o0_a2)
      have F14_o0_byLatestEnd := Fld.other W14 F_o0_byLatestEnd (Or.inl ne_o0_a2)
      have F14_o0_asked := Fld.other W14 F_o0_asked (Or.inl ne_o0_a2)
      have F14_o0_open := Fld.other W14 F_o0_open (Or.inl ne_o0_a2)
      have F14_o0_ending := Fld.other W14 F_o0_ending (Or.inl ne_o0_a2)
      have A14 : OAr Z h14 a2 .long (Int32.toNatClampNeg z_a2) (cj (updJ c_a2 (Int32.toNatClampNeg x2) ((((x2 / (3 : Int32)) <<< ((2 : Int32) &&& 31)) ||| (x2 % (3 : Int32))).toInt64))) := OAr.updJ W14 A_a2
      have N14 := Fr.snoc X14 N g_a2
      have z14 : n0 ≤ h14.size := Nat.le_trans hsz (Keep.of_wr W14).1
      have K14 := Keep.wr K W14 (Or.inr s_a2)
      refine o_iinc X14 hx (hb hby d1_40) (1 : Int32) rfl rfl #[.val (.ref o0), .val (.int x1), .val (.int (x2 + (1 : Int32)))] rfl (pc' := 43) rfl ?_
      refine o_goto X14 hx (hb hby d1_43) (pc' := 15) (by decide) (by decide) ?_
      exact ih u_times u_startPlaces u_endPlaces u_closePlaces u_byStart u_byEnd u_byLatestEnd u_asked u_open u_ending a2 (updJ c_a2 (Int32.toNatClampNeg x2) ((((x2 / (3 : Int32)) <<< ((2 : Int32) &&& 31)) ||| (x2 % (3 : Int32))).toInt64)) z_a2 x1 (x2 + (1 : Int32)) r X14 e14 N14 z14 K14 A14_o0 F14_o0_keys F14_o0_times F14_o0_startPlaces F14_o0_endPlaces F14_o0_closePlaces F14_o0_byStart F14_o0_byEnd F14_o0_byLatestEnd F14_o0_asked F14_o0_open F14_o0_ending g_o0 A14 hn_a2 g_a2 s_a2 ne_o0_a2 hr
    · rw [if_neg hc11] at hr
      refine o_icmpYes X10 hx (hb hby d1_21) (c_flt hc11).2 (pc' := 46) (by decide) (by decide) ?_
      refine o_aload_n X10 hx (hb hby d1_46) rfl rfl (pc' := 47) rfl ?_
      refine o_iconst X10 hx (hb hby d1_47) (3 : Int32) rfl (pc' := 48) rfl ?_
      refine o_iload_n X10 hx (hb hby d1_48) rfl (pc' := 49) rfl ?_
      refine o_imul X10 hx (hb hby d1_49) (pc' := 50) rfl ?_
      by_cases hg16 : (¬ (((3 : Int32) * x1) < 0) ∧ ((3 : Int32) * x1).toNatClampNeg ≤ 12)
      case neg => rw [if_neg hg16] at hr; cases hr
      rw [if_pos hg16] at hr
      refine o_newarr X10 hx hZ e10 (hw _ (List.mem_of_getElem? (i := 13) rfl)) (hb hby d1_50) (And.left hg16) 12 (And.right hg16) (by decide) (by decide) (by decide) (pc' := 52) rfl ?_
      intro T15 h15 a15 X15 e15 q15 E15 A15
      have g15 : n0 ≤ a15 := Nat.le_trans hsz (Nat.le_of_eq q15.symm)
      have ne_o0_a15 : o0 ≠ a15 := by rw [q15]; exact Nat.ne_of_lt (E_o0.lt)
      have ne_a2_a15 : a2 ≠ a15 := by rw [q15]; exact Nat.ne_of_lt (A_a2.lt)
      have s15 : h0.size ≤ a15 := Nat.le_trans K.1 (Nat.le_of_eq q15.symm)
      have A15_o0 := Exa.ext E15 E_o0
      have F15_o0_keys := Fld.ext E15 F_o0_keys
      have F15_o0_times := Fld.ext E15 F_o0_times
      have F15_o0_startPlaces := Fld.ext E15 F_o0_startPlaces
      have F15_o0_endPlaces := Fld.ext E15 F_o0_endPlaces
      have F15_o0_closePlaces := Fld.ext E15 F_o0_closePlaces
      have F15_o0_byStart := Fld.ext E15 F_o0_byStart
      have F15_o0_byEnd := Fld.ext E15 F_o0_byEnd
      have F15_o0_byLatestEnd := Fld.ext E15 F_o0_byLatestEnd
      have F15_o0_asked := Fld.ext E15 F_o0_asked
      have F15_o0_open := Fld.ext E15 F_o0_open
      have F15_o0_ending := Fld.ext E15 F_o0_ending
      have A15_a2 := OAr.ext E15 A_a2
      have z15 : n0 ≤ h15.size := Nat.le_trans hsz E15.1
      have K15 := Keep.ext K E15
      replace A15 : OAr Z h15 a15 .int (Int32.toNatClampNeg ((3 : Int32) * x1)) (ci (fun _ => 0)) := A15
      refine o_putF X15 hx hZ hown e15 (hw _ (List.mem_of_getElem? (i := 14) rfl)) Via.refl F15_o0_times A15_o0 (Or.inr ⟨(hw _ (List.mem_of_getElem? (i := 15) rfl)), rfl, hnm⟩) (hw _ (List.mem_of_getElem? (i := 2) rfl)) (ty := (.array .int)) (by decide) rfl rfl (hb hby d1_52) (pc' := 55) rfl ?_
      intro T17 h17 X17 e17 W17
      have F17_o0_times := Fld.same W17 F15_o0_times
      have A17_o0 := Exa.wr W17 A15_o0
      have F17_o0_keys := Fld.other W17 F15_o0_keys (Or.inr (slot_ne (Or.inr (hw _ (List.mem_of_getElem? (i := 12) rfl))) (Or.inr (hw _ (List.mem_of_getElem? (i := 15) rfl))) (by decide) (t := (.array .long)) (t' := (.array .int)) (by decide) (by decide)))
      have F17_o0_startPlaces := Fld.other W17 F15_o0_startPlaces (Or.inr (slot_ne (Or.inr (hw _ (List.mem_of_getElem? (i := 17) rfl))) (Or.inr (hw _ (List.mem_of_getElem? (i := 15) rfl))) (by decide) (t := (.array .int)) (t' := (.array .int)) (by decide) (by decide)))
      have F17_o0_endPlaces := Fld.other W17 F15_o0_endPlaces (Or.inr (slot_ne (Or.inr (hw _ (List.mem_of_getElem? (i := 19) rfl))) (Or.inr (hw _ (List.mem_of_getElem? (i := 15) rfl))) (by decide) (t := (.array .int)) (t' := (.array .int)) (by decide) (by decide)))
      have F17_o0_closePlaces := Fld.other W17 F15_o0_closePlaces (Or.inr (slot_ne (Or.inr (hw _ (List.mem_of_getElem? (i := 21) rfl))) (Or.inr (hw _ (List.mem_of_getElem? (i := 15) rfl))) (by decide) (t := (.array .int)) (t' := (.array .int)) (by decide) (by decide)))
      have F17_o0_byStart := Fld.other W17 F15_o0_byStart (Or.inr (slot_ne (Or.inr (hw _ (List.mem_of_getElem? (i := 23) rfl))) (Or.inr (hw _ (List.mem_of_getElem? (i := 15) rfl))) (by decide) (t := (.array .int)) (t' := (.array .int)) (by decide) (by decide)))
      have F17_o0_byEnd := Fld.other W17 F15_o0_byEnd (Or.inr (slot_ne (Or.inr (hw _ (List.mem_of_getElem? (i := 25) rfl))) (Or.inr (hw _ (List.mem_of_getElem? (i := 15) rfl))) (by decide) (t := (.array .int)) (t' := (.array .int)) (by decide) (by decide)))
      have F17_o0_byLatestEnd := Fld.other W17 F15_o0_byLatestEnd (Or.inr (slot_ne (Or.inr (hw _ (List.mem_of_getElem? (i := 27) rfl))) (Or.inr (hw _ (List.mem_of_getElem? (i := 15) rfl))) (by decide) (t := (.array .int)) (t' := (.array .int)) (by decide) (by decide)))
      have F17_o0_asked := Fld.other W17 F15_o0_asked (Or.inr (slot_ne (Or.inr (hw _ (List.mem_of_getElem? (i := 29) rfl))) (Or.inr (hw _ (List.mem_of_getElem? (i := 15) rfl))) (by decide) (t := (.array .long)) (t' := (.array .int)) (by decide) (by decide)))
      have F17_o0_open := Fld.other W17 F15_o0_open (Or.inr (slot_ne (Or.inr (hw _ (List.mem_of_getElem? (i := 31) rfl))) (Or.inr (hw _ (List.mem_of_getElem? (i := 15) rfl))) (by decide) (t := (.array .long)) (t' := (.array .int)) (by decide) (by decide)))
      have F17_o0_ending := Fld.other W17 F15_o0_ending (Or.inr (slot_ne (Or.inr (hw _ (List.mem_of_getElem? (i := 33) rfl))) (Or.inr (hw _ (List.mem_of_getElem? (i := 15) rfl))) (by decide) (t := (.array .long)) (t' := (.array .int)) (by decide) (by decide)))
      have A17_a2 := OAr.other W17 A15_a2 (Ne.symm ne_o0_a2)
      have A17_a15 := OAr.other W17 A15 (Ne.symm ne_o0_a15)
      have N17 := Fr.snoc X17 N g_o0
      have z17 : n0 ≤ h17.size := Nat.le_trans z15 (Keep.of_wr W17).1
      have K17 := Keep.wr K15 W17 (Or.inl (by simp))
      refine o_aload_n X17 hx (hb hby d1_55) rfl rfl (pc' := 56) rfl ?_
      refine o_iload_n X17 hx (hb hby d1_56) rfl (pc' := 57) rfl ?_
      by_cases hg19 : (¬ (x1 < 0) ∧ x1.toNatClampNeg ≤ 4)
      case neg => rw [if_neg hg19] at hr; cases hr
      rw [if_pos hg19] at hr
      refine o_newarr X17 hx hZ e17 (hw _ (List.mem_of_getElem? (i := 13) rfl)) (hb hby d1_57) (And.left hg19) 4 (And.right hg19) (by decide) (by decide) (by decide) (pc' := 59) rfl ?_
      intro T18 h18 a18 X18 e18 q18 E18 A18
      have g18 : n0 ≤ a18 := Nat.le_trans z17 (Nat.le_of_eq q18.symm)
      have ne_o0_a18 : o0 ≠ a18 := by rw [q18]; exact Nat.ne_of_lt (A17_o0.lt)
      have ne_a2_a18 : a2 ≠ a18 := by rw [q18]; exact Nat.ne_of_lt (A17_a2.lt)
      have ne_a15_a18 : a15 ≠ a18 := by rw [q18]; exact Nat.ne_of_lt (A17_a15.lt)
      have s18 : h0.size ≤ a18 := Nat.le_trans K17.1 (Nat.le_of_eq q18.symm)
      have A18_o0 := Exa.ext E18 A17_o0
      have F18_o0_keys := Fld.ext E18 F17_o0_keys
      have F18_o0_times := Fld.ext E18 F17_o0_times
      have F18_o0_startPlaces := Fld.ext E18 F17_o0_startPlaces
      have F18_o0_endPlaces := Fld.ext E18 F17_o0_endPlaces
      have F18_o0_closePlaces := Fld.ext E18 F17_o0_closePlaces
      have F18_o0_byStart := Fld.ext E18 F17_o0_byStart
      have F18_o0_byEnd := Fld.ext E18 F17_o0_byEnd
      have F18_o0_byLatestEnd := Fld.ext E18 F17_o0_byLatestEnd
      have F18_o0_asked := Fld.ext E18 F17_o0_asked
      have F18_o0_open := Fld.ext E18 F17_o0_open
      have F18_o0_ending := Fld.ext E18 F17_o0_ending
      have A18_a2 := OAr.ext E18 A17_a2
      have A18_a15 := OAr.ext E18 A17_a15
      have z18 : n0 ≤ h18.size := Nat.le_trans z17 E18.1
      have K18 := Keep.ext K17 E18
      replace A18 : OAr Z h18 a18 .int (Int32.toNatClampNeg x1) (ci (fun _ => 0)) := A18
      refine o_putF X18 hx hZ hown e18 (hw _ (List.mem_of_getElem? (i := 16) rfl)) Via.refl F18_o0_startPlaces A18_o0 (Or.inr ⟨(hw _ (List.mem_of_getElem? (i := 17) rfl)), rfl, hnm⟩) (hw _ (List.mem_of_getElem? (i := 2) rfl)) (ty := (.array .int)) (by decide) rfl rfl (hb hby d1_59) (pc' := 62) rfl ?_
      intro T20 h20 X20 e20 W20
      have F20_o0_startPlaces := Fld.same W20 F18_o0_startPlaces
      have A20_o0 := Exa.wr W20 A18_o0
      have F20_o0_keys := Fld.other W20 F18_o0_keys (Or.inr (slot_ne (Or.inr (hw _ (List.mem_of_getElem? (i := 12) rfl))) (Or.inr (hw _ (List.mem_of_getElem? (i := 17) rfl))) (by decide) (t := (.array .long)) (t' := (.array .int)) (by decide) (by decide)))
      have F20_o0_times := Fld.other W20 F18_o0_times (Or.inr (slot_ne (Or.inr (hw _ (List.mem_of_getElem? (i := 15) rfl))) (Or.inr (hw _ (List.mem_of_getElem? (i := 17) rfl))) (by decide) (t := (.array .int)) (t' := (.array .int)) (by decide) (by decide)))
      have F20_o0_endPlaces := Fld.other W20 F18_o0_endPlaces (Or.inr (slot_ne (Or.inr (hw _ (List.mem_of_getElem? (i := 19) rfl))) (Or.inr (hw _ (List.mem_of_getElem? (i := 17) rfl))) (by decide) (t := (.array .int)) (t' := (.array .int)) (by decide) (by decide)))
      have F20_o0_closePlaces := Fld.other W20 F18_o0_closePlaces (Or.inr (slot_ne (Or.inr (hw _ (List.mem_of_getElem? (i := 21) rfl))) (Or.inr (hw _ (List.mem_of_getElem? (i := 17) rfl))) (by decide) (t := (.array .int)) (t' := (.array .int)) (by decide) (by decide)))
      have F20_o0_byStart := Fld.other W20 F18_o0_byStart (Or.inr (slot_ne (Or.inr (hw _ (List.mem_of_getElem? (i := 23) rfl))) (Or.inr (hw _ (List.mem_of_getElem? (i := 17) rfl))) (by decide) (t := (.array .int)) (t' := (.array .int)) (by decide) (by decide)))
      have F20_o0_byEnd := Fld.other W20 F18_o0_byEnd (Or.inr (slot_ne (Or.inr (hw _ (List.mem_of_getElem? (i := 25) rfl))) (Or.inr (hw _ (List.mem_of_getElem? (i := 17) rfl))) (by decide) (t := (.array .int)) (t' := (.array .int)) (by decide) (by decide)))
      have F20_o0_byLatestEnd := Fld.other W20 F18_o0_byLatestEnd (Or.inr (slot_ne (Or.inr (hw _ (List.mem_of_getElem? (i := 27) rfl))) (Or.inr (hw _ (List.mem_of_getElem? (i := 17) rfl))) (by decide) (t := (.array .int)) (t' := (.array .int)) (by decide) (by decide)))
      have F20_o0_asked := Fld.other W20 F18_o0_asked (Or.inr (slot_ne (Or.inr (hw _ (List.mem_of_getElem? (i := 29) rfl))) (Or.inr (hw _ (List.mem_of_getElem? (i := 17) rfl))) (by decide) (t := (.array .long)) (t' := (.array .int)) (by decide) (by decide)))
      have F20_o0_open := Fld.other W20 F18_o0_open (Or.inr (slot_ne (Or.inr (hw _ (List.mem_of_getElem? (i := 31) rfl))) (Or.inr (hw _ (List.mem_of_getElem? (i := 17) rfl))) (by decide) (t := (.array .long)) (t' := (.array .int)) (by decide) (by decide)))
      have F20_o0_ending := Fld.other W20 F18_o0_ending (Or.inr (slot_ne (Or.inr (hw _ (List.mem_of_getElem? (i := 33) rfl))) (Or.inr (hw _ (List.mem_of_getElem? (i := 17) rfl))) (by decide) (t := (.array .long)) (t' := (.array .int)) (by decide) (by decide)))
      have A20_a2 := OAr.other W20 A18_a2 (Ne.symm ne_o0_a2)
      have A20_a15 := OAr.other W20 A18_a15 (Ne.symm ne_o0_a15)
      have A20_a18 := OAr.other W20 A18 (Ne.symm ne_o0_a18)
      have N20 := Fr.snoc X20 N17 g_o0
      have z20 : n0 ≤ h20.size := Nat.le_trans z18 (Keep.of_wr W20).1
      have K20 := Keep.wr K18 W20 (Or.inl (by simp))
      refine o_aload_n X20 hx (hb hby d1_62) rfl rfl (pc' := 63) rfl ?_
      refine o_iload_n X20 hx (hb hby d1_63) rfl (pc' := 64) rfl ?_
      by_cases hg22 : (¬ (x1 < 0) ∧ x1.toNatClampNeg ≤ 4)
      case neg => rw [if_neg hg22] at hr; cases hr
      rw [if_pos hg22] at hr
      refine o_newarr X20 hx hZ e20 (hw _ (List.mem_of_getElem? (i := 13) rfl)) (hb hby d1_64) (And.left hg22) 4 (And.right hg22) (by decide) (by decide) (by decide) (pc' := 66) rfl ?_
      intro T21 h21 a21 X21 e21 q21 E21 A21
      have g21 : n0 ≤ a21 := Nat.le_trans z20 (Nat.le_of_eq q21.symm)
      have ne_o0_a21 : o0 ≠ a21 := by rw [q21]; exact Nat.ne_of_lt (A20_o0.lt)
      have ne_a2_a21 : a2 ≠ a21 := by rw [q21]; exact Nat.ne_of_lt (A20_a2.lt)
      have ne_a15_a21 : a15 ≠ a21 := by rw [q21]; exact Nat.ne_of_lt (A20_a15.lt)
      have ne_a18_a21 : a18 ≠ a21 := by rw [q21]; exact Nat.ne_of_lt (A20_a18.lt)
      have s21 : h0.size ≤ a21 := Nat.le_trans K20.1 (Nat.le_of_eq q21.symm)
      have A21_o0 := Exa.ext E21 A20_o0
      have F21_o0_keys := Fld.ext E21 F20_o0_keys
      have F21_o0_times := Fld.ext E21 F20_o0_times
      have F21_o0_startPlaces := Fld.ext E21 F20_o0_startPlaces
      have F21_o0_endPlaces := Fld.ext E21 F20_o0_endPlaces
      have F21_o0_closePlaces := Fld.ext E21 F20_o0_closePlaces
      have F21_o0_byStart := Fld.ext E21 F20_o0_byStart
      have F21_o0_byEnd := Fld.ext E21 F20_o0_byEnd
      have F21_o0_byLatestEnd := Fld.ext E21 F20_o0_byLatestEnd
      have F21_o0_asked := Fld.ext E21 F20_o0_asked
      have F21_o0_open := Fld.ext E21 F20_o0_open
      have F21_o0_ending := Fld.ext E21 F20_o0_ending
      have A21_a2 := OAr.ext E21 A20_a2
      have A21_a15 := OAr.ext E21 A20_a15
      have A21_a18 := OAr.ext E21 A20_a18
      have z21 : n0 ≤ h21.size := Nat.le_trans z20 E21.1
      have K21 := Keep.ext K20 E21
      replace A21 : OAr Z h21 a21 .int (Int32.toNatClampNeg x1) (ci (fun _ => 0)) := A21
      refine o_putF X21 hx hZ hown e21 (hw _ (List.mem_of_getElem? (i := 18) rfl)) Via.refl F21_o0_endPlaces A21_o0 (Or.inr ⟨(hw _ (List.mem_of_getElem? (i := 19) rfl)), rfl, hnm⟩) (hw _ (List.mem_of_getElem? (i := 2) rfl)) (ty := (.array .int)) (by decide) rfl rfl (hb hby d1_66) (pc' := 69) rfl ?_
      intro T23 h23 X23 e23 W23
      have F23_o0_endPlaces := Fld.same W23 F21_o0_endPlaces
      have A23_o0 := Exa.wr W23 A21_o0
      have F23_o0_keys := Fld.other W23 F21_o0_keys (Or.inr (slot_ne (Or.inr (hw _ (List.mem_of_getElem? (i := 12) rfl))) (Or.inr (hw _ (List.mem_of_getElem? (i := 19) rfl))) (by decide) (t := (.array .long)) (t' := (.array .int)) (by decide) (by decide)))
      have F23_o0_times := Fld.other W23 F21_o0_times (Or.inr (slot_ne (Or.inr (hw _ (List.mem_of_getElem? (i := 15) rfl))) (Or.inr (hw _ (List.mem_of_getElem? (i := 19) rfl))) (by decide) (t := (.array .int)) (t' := (.array .int)) (by decide) (by decide)))
      have F23_o0_startPlaces := Fld.other W23 F21_o0_startPlaces (Or.inr (slot_ne (Or.inr (hw _ (List.mem_of_getElem? (i := 17) rfl))) (Or.inr (hw _ (List.mem_of_getElem? (i := 19) rfl))) (by decide) (t := (.array .int)) (t' := (.array .int)) (by decide) (by decide)))
      have F23_o0_closePlaces := Fld.other W23 F21_o0_closePlaces (Or.inr (slot_ne (Or.inr (hw _ (List.mem_of_getElem? (i := 21) rfl))) (Or.inr (hw _ (List.mem_of_getElem? (i := 19) rfl))) (by decide) (t := (.array .int)) (t' := (.array .int)) (by decide) (by decide)))
      have F23_o0_byStart := Fld.other W23 F21_o0_byStart (Or.inr (slot_ne (Or.inr (hw _ (List.mem_of_getElem? (i := 23) rfl))) (Or.inr (hw _ (List.mem_of_getElem? (i := 19) rfl))) (by decide) (t := (.array .int)) (t' := (.array .int)) (by decide) (by decide)))
      have F23_o0_byEnd := Fld.other W23 F21_o0_byEnd (Or.inr (slot_ne (Or.inr (hw _ (List.mem_of_getElem? (i := 25) rfl))) (Or.inr (hw _ (List.mem_of_getElem? (i := 19) rfl))) (by decide) (t := (.array .int)) (t' := (.array .int)) (by decide) (by decide)))
      have F23_o0_byLatestEnd := Fld.other W23 F21_o0_byLatestEnd (Or.inr (slot_ne (Or.inr (hw _ (List.mem_of_getElem? (i := 27) rfl))) (Or.inr (hw _ (List.mem_of_getElem? (i := 19) rfl))) (by decide) (t := (.array .int)) (t' := (.array .int)) (by decide) (by decide)))
      have F23_o0_asked := Fld.other W23 F21_o0_asked (Or.inr (slot_ne (Or.inr (hw _ (List.mem_of_getElem? (i := 29) rfl))) (Or.inr (hw _ (List.mem_of_getElem? (i := 19) rfl))) (by decide) (t := (.array .long)) (t' := (.array .int)) (by decide) (by decide)))
      have F23_o0_open := Fld.other W23 F21_o0_open (Or.inr (slot_ne (Or.inr (hw _ (List.mem_of_getElem? (i := 31) rfl))) (Or.inr (hw _ (List.mem_of_getElem? (i := 19) rfl))) (by decide) (t := (.array .long)) (t' := (.array .int)) (by decide) (by decide)))
      have F23_o0_ending := Fld.other W23 F21_o0_ending (Or.inr (slot_ne (Or.inr (hw _ (List.mem_of_getElem? (i := 33) rfl))) (Or.inr (hw _ (List.mem_of_getElem? (i := 19) rfl))) (by decide) (t := (.array .long)) (t' := (.array .int)) (by decide) (by decide)))
      have A23_a2 := OAr.other W23 A21_a2 (Ne.symm ne_o0_a2)
      have A23_a15 := OAr.other W23 A21_a15 (Ne.symm ne_o0_a15)
      have A23_a18 := OAr.other W23 A21_a18 (Ne.symm ne_o0_a18)
      have A23_a21 := OAr.other W23 A21 (Ne.symm ne_o0_a21)
      have N23 := Fr.snoc X23 N20 g_o0
      have z23 : n0 ≤ h23.size := Nat.le_trans z21 (Keep.of_wr W23).1
      have K23 := Keep.wr K21 W23 (Or.inl (by simp))
      refine o_aload_n X23 hx (hb hby d1_69) rfl rfl (pc' := 70) rfl ?_
      refine o_iload_n X23 hx (hb hby d1_70) rfl (pc' := 71) rfl ?_
      by_cases hg25 : (¬ (x1 < 0) ∧ x1.toNatClampNeg ≤ 4)
      case neg => rw [if_neg hg25] at hr; cases hr
      rw [if_pos hg25] at hr
      refine o_newarr X23 hx hZ e23 (hw _ (List.mem_of_getElem? (i := 13) rfl)) (hb hby d1_71) (And.left hg25) 4 (And.right hg25) (by decide) (by decide) (by decide) (pc' := 73) rfl ?_
      intro T24 h24 a24 X24 e24 q24 E24 A24
      have g24 : n0 ≤ a24 := Nat.le_trans z23 (Nat.le_of_eq q24.symm)
      have ne_o0_a24 : o0 ≠ a24 := by rw [q24]; exact Nat.ne_of_lt (A23_o0.lt)
      have ne_a2_a24 : a2 ≠ a24 := by rw [q24]; exact Nat.ne_of_lt (A23_a2.lt)
      have ne_a15_a24 : a15 ≠ a24 := by rw [q24]; exact Nat.ne_of_lt (A23_a15.lt)
      have ne_a18_a24 : a18 ≠ a24 := by rw [q24]; exact Nat.ne_of_lt (A23_a18.lt)
      have ne_a21_a24 : a21 ≠ a24 := by rw [q24]; exact Nat.ne_of_lt (A23_a21.lt)
      have s24 : h0.size ≤ a24 := Nat.le_trans K23.1 (Nat.le_of_eq q24.symm)
      have A24_o0 := Exa.ext E24 A23_o0
      have F24_o0_keys := Fld.ext E24 F23_o0_keys
      have F24_o0_times := Fld.ext E24 F23_o0_times
      have F24_o0_startPlaces := Fld.ext E24 F23_o0_startPlaces
      have F24_o0_endPlaces := Fld.ext E24 F23_o0_endPlaces
      have F24_o0_closePlaces := Fld.ext E24 F23_o0_closePlaces
      have F24_o0_byStart := Fld.ext E24 F23_o0_byStart
      have F24_o0_byEnd := Fld.ext E24 F23_o0_byEnd
      have F24_o0_byLatestEnd := Fld.ext E24 F23_o0_byLatestEnd
      have F24_o0_asked := Fld.ext E24 F23_o0_asked
      have F24_o0_open := Fld.ext E24 F23_o0_open
      have F24_o0_ending := Fld.ext E24 F23_o0_ending
      have A24_a2 := OAr.ext E24 A23_a2
      have A24_a15 := OAr.ext E24 A23_a15
      have A24_a18 := OAr.ext E24 A23_a18
      have A24_a21 := OAr.ext E24 A23_a21
      have z24 : n0 ≤ h24.size := Nat.le_trans z23 E24.1
      have K24 := Keep.ext K23 E24
      replace A24 : OAr Z h24 a24 .int (Int32.toNatClampNeg x1) (ci (fun _ => 0)) := A24
      refine o_putF X24 hx hZ hown e24 (hw _ (List.mem_of_getElem? (i := 20) rfl)) Via.refl F24_o0_closePlaces A24_o0 (Or.inr ⟨(hw _ (List.mem_of_getElem? (i := 21) rfl)), rfl, hnm⟩) (hw _ (List.mem_of_getElem? (i := 2) rfl)) (ty := (.array .int)) (by decide) rfl rfl (hb hby d1_73) (pc' := 76) rfl ?_
      intro T26 h26 X26 e26 W26
      have F26_o0_closePlaces := Fld.same W26 F24_o0_closePlaces
      have A26_o0 := Exa.wr W26 A24_o0
      have F26_o0_keys := Fld.other W26 F24_o0_keys (Or.inr (slot_ne (Or.inr (hw _ (List.mem_of_getElem? (i := 12) rfl))) (Or.inr (hw _ (List.mem_of_getElem? (i := 21) rfl))) (by decide) (t := (.array .long)) (t' := (.array .int)) (by decide) (by decide)))
      have F26_o0_times := Fld.other W26 F24_o0_times (Or.inr (slot_ne (Or.inr (hw _ (List.mem_of_getElem? (i := 15) rfl))) (Or.inr (hw _ (List.mem_of_getElem? (i := 21) rfl))) (by decide) (t := (.array .int)) (t' := (.array .int)) (by decide) (by decide)))
      have F26_o0_startPlaces := Fld.other W26 F24_o0_startPlaces (Or.inr (slot_ne (Or.inr (hw _ (List.mem_of_getElem? (i := 17) rfl))) (Or.inr (hw _ (List.mem_of_getElem? (i := 21) rfl))) (by decide) (t := (.array .int)) (t' := (.array .int)) (by decide) (by decide)))
      have F26_o0_endPlaces := Fld.other W26 F24_o0_endPlaces (Or.inr (slot_ne (Or.inr (hw _ (List.mem_of_getElem? (i := 19) rfl))) (Or.inr (hw _ (List.mem_of_getElem? (i := 21) rfl))) (by decide) (t := (.array .int)) (t' := (.array .int)) (by decide) (by decide)))
      have F26_o0_byStart := Fld.other W26 F24_o0_byStart (Or.inr (slot_ne (Or.inr (hw _ (List.mem_of_getElem? (i := 23) rfl))) (Or.inr (hw _ (List.mem_of_getElem? (i := 21) rfl))) (by decide) (t := (.array .int)) (t' := (.array .int)) (by decide) (by decide)))
      have F26_o0_byEnd := Fld.other W26 F24_o0_byEnd (Or.inr (slot_ne (Or.inr (hw _ (List.mem_of_getElem? (i := 25) rfl))) (Or.inr (hw _ (List.mem_of_getElem? (i := 21) rfl))) (by decide) (t := (.array .int)) (t' := (.array .int)) (by decide) (by decide)))
      have F26_o0_byLatestEnd := Fld.other W26 F24_o0_byLatestEnd (Or.inr (slot_ne (Or.inr (hw _ (List.mem_of_getElem? (i := 27) rfl))) (Or.inr (hw _ (List.mem_of_getElem? (i := 21) rfl))) (by decide) (t := (.array .int)) (t' := (.array .int)) (by decide) (by decide)))
      have F26_o0_asked := Fld.other W26 F24_o0_asked (Or.inr (slot_ne (Or.inr (hw _ (List.mem_of_getElem? (i := 29) rfl))) (Or.inr (hw _ (List.mem_of_getElem? (i := 21) rfl))) (by decide) (t := (.array .long)) (t' := (.array .int)) (by decide) (by decide)))
      have F26_o0_open := Fld.other W26 F24_o0_open (Or.inr (slot_ne (Or.inr (hw _ (List.mem_of_getElem? (i := 31) rfl))) (Or.inr (hw _ (List.mem_of_getElem? (i := 21) rfl))) (by decide) (t := (.array .long)) (t' := (.array .int)) (by decide) (by decide)))
      have F26_o0_ending := Fld.other W26 F24_o0_ending (Or.inr (slot_ne (Or.inr (hw _ (List.mem_of_getElem? (i := 33) rfl))) (Or.inr (hw _ (List.mem_of_getElem? (i := 21) rfl))) (by decide) (t := (.array .long)) (t' := (.array .int)) (by decide) (by decide)))
      have A26_a2 := OAr.other W26 A24_a2 (Ne.symm ne_o0_a2)
      have A26_a15 := OAr.other W26 A24_a15 (Ne.symm ne_o0_a15)
      have A26_a18 := OAr.other W26 A24_a18 (Ne.symm ne_o0_a18)
      have A26_a21 := OAr.other W26 A24_a21 (Ne.symm ne_o0_a21)
      have A26_a24 := OAr.other W26 A24 (Ne.symm ne_o0_a24)
      have N26 := Fr.snoc X26 N23 g_o0
      have z26 : n0 ≤ h26.size := Nat.le_trans z24 (Keep.of_wr W26).1
      have K26 := Keep.wr K24 W26 (Or.inl (by simp))
      refine o_aload_n X26 hx (hb hby d1_76) rfl rfl (pc' := 77) rfl ?_
      refine o_iload_n X26 hx (hb hby d1_77) rfl (pc' := 78) rfl ?_
      by_cases hg28 : (¬ (x1 < 0) ∧ x1.toNatClampNeg ≤ 4)
      case neg => rw [if_neg hg28] at hr; cases hr
      rw [if_pos hg28] at hr
      refine o_newarr X26 hx hZ e26 (hw _ (List.mem_of_getElem? (i := 13) rfl)) (hb hby d1_78) (And.left hg28) 4 (And.right hg28) (by decide) (by decide) (by decide) (pc' := 80) rfl ?_
      intro T27 h27 a27 X27 e27 q27 E27 A27
      have g27 : n0 ≤ a27 := Nat.le_trans z26 (Nat.le_of_eq q27.symm)
      have ne_o0_a27 : o0 ≠ a27 := by rw [q27]; exact Nat.ne_of_lt (A26_o0.lt)
      have ne_a2_a27 : a2 ≠ a27 := by rw [q27]; exact Nat.ne_of_lt (A26_a2.lt)
      have ne_a15_a27 : a15 ≠ a27 := by rw [q27]; exact Nat.ne_of_lt (A26_a15.lt)
      have ne_a18_a27 : a18 ≠ a27 := by rw [q27]; exact Nat.ne_of_lt (A26_a18.lt)
      have ne_a21_a27 : a21 ≠ a27 := by rw [q27]; exact Nat.ne_of_lt (A26_a21.lt)
      have ne_a24_a27 : a24 ≠ a27 := by rw [q27]; exact Nat.ne_of_lt (A26_a24.lt)
      have s27 : h0.size ≤ a27 := Nat.le_trans K26.1 (Nat.le_of_eq q27.symm)
      have A27_o0 := Exa.ext E27 A26_o0
      have F27_o0_keys := Fld.ext E27 F26_o0_keys
      have F27_o0_times := Fld.ext E27 F26_o0_times
      have F27_o0_startPlaces := Fld.ext E27 F26_o0_startPlaces
      have F27_o0_endPlaces := Fld.ext E27 F26_o0_endPlaces
      have F27_o0_closePlaces := Fld.ext E27 F26_o0_closePlaces
      have F27_o0_byStart := Fld.ext E27 F26_o0_byStart
      have F27_o0_byEnd := Fld.ext E27 F26_o0_byEnd
      have F27_o0_byLatestEnd := Fld.ext E27 F26_o0_byLatestEnd
      have F27_o0_asked := Fld.ext E27 F26_o0_asked
      have F27_o0_open := Fld.ext E27 F26_o0_open
      have F27_o0_ending := Fld.ext E27 F26_o0_ending
      have A27_a2 := OAr.ext E27 A26_a2
      have A27_a15 := OAr.ext E27 A26_a15
      have A27_a18 := OAr.ext E27 A26_a18
      have A27_a21 := OAr.ext E27 A26_a21
      have A27_a24 := OAr.ext E27 A26_a24
      have z27 : n0 ≤ h27.size := Nat.le_trans z26 E27.1
      have K27 := Keep.ext K26 E27
      replace A27 : OAr Z h27 a27 .int (Int32.toNatClampNeg x1) (ci (fun _ => 0)) := A27
      refine o_putF X27 hx hZ hown e27 (hw _ (List.mem_of_getElem? (i := 22) rfl)) Via.refl F27_o0_byStart A27_o0 (Or.inr ⟨(hw _ (List.mem_of_getElem? (i := 23) rfl)), rfl, hnm⟩) (hw _ (List.mem_of_getElem? (i := 2) rfl)) (ty := (.array .int)) (by decide) rfl rfl (hb hby d1_80) (pc' := 83) rfl ?_
      intro T29 h29 X29 e29 W29
      have F29_o0_byStart := Fld.same W29 F27_o0_byStart
      have A29_o0 := Exa.wr W29 A27_o0
      have F29_o0_keys := Fld.other W29 F27_o0_keys (Or.inr (slot_ne (Or.inr (hw _ (List.mem_of_getElem? (i := 12) rfl))) (Or.inr (hw _ (List.mem_of_getElem? (i := 23) rfl))) (by decide) (t := (.array .long)) (t' := (.array .int)) (by decide) (by decide)))
      have F29_o0_times := Fld.other W29 F27_o0_times (Or.inr (slot_ne (Or.inr (hw _ (List.mem_of_getElem? (i := 15) rfl))) (Or.inr (hw _ (List.mem_of_getElem? (i := 23) rfl))) (by decide) (t := (.array .int)) (t' := (.array .int)) (by decide) (by decide)))
      have F29_o0_startPlaces := Fld.other W29 F27_o0_startPlaces (Or.inr (slot_ne (Or.inr (hw _ (List.mem_of_getElem? (i := 17) rfl))) (Or.inr (hw _ (List.mem_of_getElem? (i := 23) rfl))) (by decide) (t := (.array .int)) (t' := (.array .int)) (by decide) (by decide)))
      have F29_o0_endPlaces := Fld.other W29 F27_o0_endPlaces (Or.inr (slot_ne (Or.inr (hw _ (List.mem_of_getElem? (i := 19) rfl))) (Or.inr (hw _ (List.mem_of_getElem? (i := 23) rfl))) (by decide) (t := (.array .int)) (t' := (.array .int)) (by decide) (by decide)))
      have F29_o0_closePlaces := Fld.other W29 F27_o0_closePlaces (Or.inr (slot_ne (Or.inr (hw _ (List.mem_of_getElem? (i := 21) rfl))) (Or.inr (hw _ (List.mem_of_getElem? (i := 23) rfl))) (by decide) (t := (.array .int)) (t' := (.array .int)) (by decide) (by decide)))
      have F29_o0_byEnd := Fld.other W29 F27_o0_byEnd (Or.inr (slot_ne (Or.inr (hw _ (List.mem_of_getElem? (i := 25) rfl))) (Or.inr (hw _ (List.mem_of_getElem? (i := 23) rfl))) (by decide) (t := (.array .int)) (t' := (.array .int)) (by decide) (by decide)))
      have F29_o0_byLatestEnd := Fld.other W29 F27_o0_byLatestEnd (Or.inr (slot_ne (Or.inr (hw _ (List.mem_of_getElem? (i := 27) rfl))) (Or.inr (hw _ (List.mem_of_getElem? (i := 23) rfl))) (by decide) (t := (.array .int)) (t' := (.array .int)) (by decide) (by decide)))
      have F29_o0_asked := Fld.other W29 F27_o0_asked (Or.inr (slot_ne (Or.inr (hw _ (List.mem_of_getElem? (i := 29) rfl))) (Or.inr (hw _ (List.mem_of_getElem? (i := 23) rfl))) (by decide) (t := (.array .long)) (t' := (.array .int)) (by decide) (by decide)))
      have F29_o0_open := Fld.other W29 F27_o0_open (Or.inr (slot_ne (Or.inr (hw _ (List.mem_of_getElem? (i := 31) rfl))) (Or.inr (hw _ (List.mem_of_getElem? (i := 23) rfl))) (by decide) (t := (.array .long)) (t' := (.array .int)) (by decide) (by decide)))
      have F29_o0_ending := Fld.other W29 F27_o0_ending (Or.inr (slot_ne (Or.inr (hw _ (List.mem_of_getElem? (i := 33) rfl))) (Or.inr (hw _ (List.mem_of_getElem? (i := 23) rfl))) (by decide) (t := (.array .long)) (t' := (.array .int)) (by decide) (by decide)))
      have A29_a2 := OAr.other W29 A27_a2 (Ne.symm ne_o0_a2)
      have A29_a15 := OAr.other W29 A27_a15 (Ne.symm ne_o0_a15)
      have A29_a18 := OAr.other W29 A27_a18 (Ne.symm ne_o0_a18)
      have A29_a21 := OAr.other W29 A27_a21 (Ne.symm ne_o0_a21)
      have A29_a24 := OAr.other W29 A27_a24 (Ne.symm ne_o0_a24)
      have A29_a27 := OAr.other W29 A27 (Ne.symm ne_o0_a27)
      have N29 := Fr.snoc X29 N26 g_o0
      have z29 : n0 ≤ h29.size := Nat.le_trans z27 (Keep.of_wr W29).1
      have K29 := Keep.wr K27 W29 (Or.inl (by simp))
      refine o_aload_n X29 hx (hb hby d1_83) rfl rfl (pc' := 84) rfl ?_
      refine o_iload_n X29 hx (hb hby d1_84) rfl (pc' := 85) rfl ?_
      by_cases hg31 : (¬ (x1 < 0) ∧ x1.toNatClampNeg ≤ 4)
      case neg => rw [if_neg hg31] at hr; cases hr
      rw [if_pos hg31] at hr
      refine o_newarr X29 hx hZ e29 (hw _ (List.mem_of_getElem? (i := 13) rfl)) (hb hby d1_85) (And.left hg31) 4 (And.right hg31) (by decide) (by decide) (by decide) (pc' := 87) rfl ?_
      intro T30 h30 a30 X30 e30 q30 E30 A30
      have g30 : n0 ≤ a30 := Nat.le_trans z29 (Nat.le_of_eq q30.symm)
      have ne_o0_a30 : o0 ≠ a30 := by rw [q30]; exact Nat.ne_of_lt (A29_o0.lt)
      have ne_a2_a30 : a2 ≠ a30 := by rw [q30]; exact Nat.ne_of_lt (A29_a2.lt)
      have ne_a15_a30 : a15 ≠ a30 := by rw [q30]; exact Nat.ne_of_lt (A29_a15.lt)
      have ne_a18_a30 : a18 ≠ a30 := by rw [q30]; exact Nat.ne_of_lt (A29_a18.lt)
      have ne_a21_a30 : a21 ≠ a30 := by rw [q30]; exact Nat.ne_of_lt (A29_a21.lt)
      have ne_a24_a30 : a24 ≠ a30 := by rw [q30]; exact Nat.ne_of_lt (A29_a24.lt)
      have ne_a27_a30 : a27 ≠ a30 := by rw [q30]; exact Nat.ne_of_lt (A29_a27.lt)
      have s30 : h0.size ≤ a30 := Nat.le_trans K29.1 (Nat.le_of_eq q30.symm)
      have A30_o0 := Exa.ext E30 A29_o0
      have F30_o0_keys := Fld.ext E30 F29_o0_keys
      have F30_o0_times := Fld.ext E30 F29_o0_times
      have F30_o0_startPlaces := Fld.ext E30 F29_o0_startPlaces
      have F30_o0_endPlaces := Fld.ext E30 F29_o0_endPlaces
      have F30_o0_closePlaces := Fld.ext E30 F29_o0_closePlaces
      have F30_o0_byStart := Fld.ext E30 F29_o0_byStart
      have F30_o0_byEnd := Fld.ext E30 F29_o0_byEnd
      have F30_o0_byLatestEnd := Fld.ext E30 F29_o0_byLatestEnd
      have F30_o0_asked := Fld.ext E30 F29_o0_asked
      have F30_o0_open := Fld.ext E30 F29_o0_open
      have F30_o0_ending := Fld.ext E30 F29_o0_ending
      have A30_a2 := OAr.ext E30 A29_a2
      have A30_a15 := OAr.ext E30 A29_a15
      have A30_a18 := OAr.ext E30 A29_a18
      have A30_a21 := OAr.ext E30 A29_a21
      have A30_a24 := OAr.ext E30 A29_a24
      have A30_a27 := OAr.ext E30 A29_a27
      have z30 : n0 ≤ h30.size := Nat.le_trans z29 E30.1
      have K30 := Keep.ext K29 E30
      replace A30 : OAr Z h30 a30 .int (Int32.toNatClampNeg x1) (ci (fun _ => 0)) := A30
      refine o_putF X30 hx hZ hown e30 (hw _ (List.mem_of_getElem? (i := 24) rfl)) Via.refl F30_o0_byEnd A30_o0 (Or.inr ⟨(hw _ (List.mem_of_getElem? (i := 25) rfl)), rfl, hnm⟩) (hw _ (List.mem_of_getElem? (i := 2) rfl)) (ty := (.array .int)) (by decide) rfl rfl (hb hby d1_87) (pc' := 90) rfl ?_
      intro T32 h32 X32 e32 W32
      have F32_o0_byEnd := Fld.same W32 F30_o0_byEnd
      have A32_o0 := Exa.wr W32 A30_o0
      have F32_o0_keys := Fld.other W32 F30_o0_keys (Or.inr (slot_ne (Or.inr (hw _ (List.mem_of_getElem? (i := 12) rfl))) (Or.inr (hw _ (List.mem_of_getElem? (i := 25) rfl))) (by decide) (t := (.array .long)) (t' := (.array .int)) (by decide) (by decide)))
      have F32_o0_times := Fld.other W32 F30_o0_times (Or.inr (slot_ne (Or.inr (hw _ (List.mem_of_getElem? (i := 15) rfl))) (Or.inr (hw _ (List.mem_of_getElem? (i := 25) rfl))) (by decide) (t := (.array .int)) (t' := (.array .int)) (by decide) (by decide)))
      have F32_o0_startPlaces := Fld.other W32 F30_o0_startPlaces (Or.inr (slot_ne (Or.inr (hw _ (List.mem_of_getElem? (i := 17) rfl))) (Or.inr (hw _ (List.mem_of_getElem? (i := 25) rfl))) (by decide) (t := (.array .int)) (t' := (.array .int)) (by decide) (by decide)))
      have F32_o0_endPlaces := Fld.other W32 F30_o0_endPlaces (Or.inr (slot_ne (Or.inr (hw _ (List.mem_of_getElem? (i := 19) rfl))) (Or.inr (hw _ (List.mem_of_getElem? (i := 25) rfl))) (by decide) (t := (.array .int)) (t' := (.array .int)) (by decide) (by decide)))
      have F32_o0_closePlaces := Fld.other W32 F30_o0_closePlaces (Or.inr (slot_ne (Or.inr (hw _ (List.mem_of_getElem? (i := 21) rfl))) (Or.inr (hw _ (List.mem_of_getElem? (i := 25) rfl))) (by decide) (t := (.array .int)) (t' := (.array .int)) (by decide) (by decide)))
      have F32_o0_byStart := Fld.other W32 F30_o0_byStart (Or.inr (slot_ne (Or.inr (hw _ (List.mem_of_getElem? (i := 23) rfl))) (Or.inr (hw _ (List.mem_of_getElem? (i := 25) rfl))) (by decide) (t := (.array .int)) (t' := (.array .int)) (by decide) (by decide)))
      have F32_o0_byLatestEnd := Fld.other W32 F30_o0_byLatestEnd (Or.inr (slot_ne (Or.inr (hw _ (List.mem_of_getElem? (i := 27) rfl))) (Or.inr (hw _ (List.mem_of_getElem? (i := 25) rfl))) (by decide) (t := (.array .int)) (t' := (.array .int)) (by decide) (by decide)))
      have F32_o0_asked := Fld.other W32 F30_o0_asked (Or.inr (slot_ne (Or.inr (hw _ (List.mem_of_getElem? (i := 29) rfl))) (Or.inr (hw _ (List.mem_of_getElem? (i := 25) rfl))) (by decide) (t := (.array .long)) (t' := (.array .int)) (by decide) (by decide)))
      have F32_o0_open := Fld.other W32 F30_o0_open (Or.inr (slot_ne (Or.inr (hw _ (List.mem_of_getElem? (i := 31) rfl))) (Or.inr (hw _ (List.mem_of_getElem? (i := 25) rfl))) (by decide) (t := (.array .long)) (t' := (.array .int)) (by decide) (by decide)))
      have F32_o0_ending := Fld.other W32 F30_o0_ending (Or.inr (slot_ne (Or.inr (hw _ (List.mem_of_getElem? (i := 33) rfl))) (Or.inr (hw _ (List.mem_of_getElem? (i := 25) rfl))) (by decide) (t := (.array .long)) (t' := (.array .int)) (by decide) (by decide)))
      have A32_a2 := OAr.other W32 A30_a2 (Ne.symm ne_o0_a2)
      have A32_a15 := OAr.other W32 A30_a15 (Ne.symm ne_o0_a15)
      have A32_a18 := OAr.other W32 A30_a18 (Ne.symm ne_o0_a18)
      have A32_a21 := OAr.other W32 A30_a21 (Ne.symm ne_o0_a21)
      have A32_a24 := OAr.other W32 A30_a24 (Ne.symm ne_o0_a24)
      have A32_a27 := OAr.other W32 A30_a27 (Ne.symm ne_o0_a27)
      have A32_a30 := OAr.other W32 A30 (Ne.symm ne_o0_a30)
      have N32 := Fr.snoc X32 N29 g_o0
      have z32 : n0 ≤ h32.size := Nat.le_trans z30 (Keep.of_wr W32).1
      have K32 := Keep.wr K30 W32 (Or.inl (by simp))
      refine o_aload_n X32 hx (hb hby d1_90) rfl rfl (pc' := 91) rfl ?_
      refine o_iload_n X32 hx (hb hby d1_91) rfl (pc' := 92) rfl ?_
      by_cases hg34 : (¬ (x1 < 0) ∧ x1.toNatClampNeg ≤ 4)
      case neg => rw [if_neg hg34] at hr; cases hr
      rw [if_pos hg34] at hr
      refine o_newarr X32 hx hZ e32 (hw _ (List.mem_of_getElem? (i := 13) rfl)) (hb hby d1_92) (And.left hg34) 4 (And.right hg34) (by decide) (by decide) (by decide) (pc' := 94) rfl ?_
      intro T33 h33 a33 X33 e33 q33 E33 A33
      have g33 : n0 ≤ a33 := Nat.le_trans z32 (Nat.le_of_eq q33.symm)
      have ne_o0_a33 : o0 ≠ a33 := by rw [q33]; exact Nat.ne_of_lt (A32_o0.lt)
      have ne_a2_a33 : a2 ≠ a33 := by rw [q33]; exact Nat.ne_of_lt (A32_a2.lt)
      have ne_a15_a33 : a15 ≠ a33 := by rw [q33]; exact Nat.ne_of_lt (A32_a15.lt)
      have ne_a18_a33 : a18 ≠ a33 := by rw [q33]; exact Nat.ne_of_lt (A32_a18.lt)
      have ne_a21_a33 : a21 ≠ a33 := by rw [q33]; exact Nat.ne_of_lt (A32_a21.lt)
      have ne_a24_a33 : a24 ≠ a33 := by rw [q33]; exact Nat.ne_of_lt (A32_a24.lt)
      have ne_a27_a33 : a27 ≠ a33 := by rw [q33]; exact Nat.ne_of_lt (A32_a27.lt)
      have ne_a30_a33 : a30 ≠ a33 := by rw [q33]; exact Nat.ne_of_lt (A32_a30.lt)
      have s33 : h0.size ≤ a33 := Nat.le_trans K32.1 (Nat.le_of_eq q33.symm)
      have A33_o0 := Exa.ext E33 A32_o0
      have F33_o0_keys := Fld.ext E33 F32_o0_keys
      have F33_o0_times := Fld.ext E33 F32_o0_times
      have F33_o0_startPlaces := Fld.ext E33 F32_o0_startPlaces
      have F33_o0_endPlaces := Fld.ext E33 F32_o0_endPlaces
      have F33_o0_closePlaces := Fld.ext E33 F32_o0_closePlaces
      have F33_o0_byStart := Fld.ext E33 F32_o0_byStart
      have F33_o0_byEnd := Fld.ext E33 F32_o0_byEnd
      have F33_o0_byLatestEnd := Fld.ext E33 F32_o0_byLatestEnd
      have F33_o0_asked := Fld.ext E33 F32_o0_asked
      have F33_o0_open := Fld.ext E33 F32_o0_open
      have F33_o0_ending := Fld.ext E33 F32_o0_ending
      have A33_a2 := OAr.ext E33 A32_a2
      have A33_a15 := OAr.ext E33 A32_a15
      have A33_a18 := OAr.ext E33 A32_a18
      have A33_a21 := OAr.ext E33 A32_a21
      have A33_a24 := OAr.ext E33 A32_a24
      have A33_a27 := OAr.ext E33 A32_a27
      have A33_a30 := OAr.ext E33 A32_a30
      have z33 : n0 ≤ h33.size := Nat.le_trans z32 E33.1
      have K33 := Keep.ext K32 E33
      replace A33 : OAr Z h33 a33 .int (Int32.toNatClampNeg x1) (ci (fun _ => 0)) := A33
      refine o_putF X33 hx hZ hown e33 (hw _ (List.mem_of_getElem? (i := 26) rfl)) Via.refl F33_o0_byLatestEnd A33_o0 (Or.inr ⟨(hw _ (List.mem_of_getElem? (i := 27) rfl)), rfl, hnm⟩) (hw _ (List.mem_of_getElem? (i := 2) rfl)) (ty := (.array .int)) (by decide) rfl rfl (hb hby d1_94) (pc' := 97) rfl ?_
      intro T35 h35 X35 e35 W35
      have F35_o0_byLatestEnd := Fld.same W35 F33_o0_byLatestEnd
      have A35_o0 := Exa.wr W35 A33_o0
      have F35_o0_keys := Fld.other W35 F33_o0_keys (Or.inr (slot_ne (Or.inr (hw _ (List.mem_of_getElem? (i := 12) rfl))) (Or.inr (hw _ (List.mem_of_getElem? (i := 27) rfl))) (by decide) (t := (.array .long)) (t' := (.array .int)) (by decide) (by decide)))
      have F35_o0_times := Fld.other W35 F33_o0_times (Or.inr (slot_ne (Or.inr (hw _ (List.mem_of_getElem? (i := 15) rfl))) (Or.inr (hw _ (List.mem_of_getElem? (i := 27) rfl))) (by decide) (t := (.array .int)) (t' := (.array .int)) (by decide) (by decide)))
      have F35_o0_startPlaces := Fld.other W35 F33_o0_startPlaces (Or.inr (slot_ne (Or.inr (hw _ (List.mem_of_getElem? (i := 17) rfl))) (Or.inr (hw _ (List.mem_of_getElem? (i := 27) rfl))) (by decide) (t := (.array .int)) (t' := (.array .int)) (by decide) (by decide)))
      have F35_o0_endPlaces := Fld.other W35 F33_o0_endPlaces (Or.inr (slot_ne (Or.inr (hw _ (List.mem_of_getElem? (i := 19) rfl))) (Or.inr (hw _ (List.mem_of_getElem? (i := 27) rfl))) (by decide) (t := (.array .int)) (t' := (.array .int)) (by decide) (by decide)))
      have F35_o0_closePlaces := Fld.other W35 F33_o0_closePlaces (Or.inr (slot_ne (Or.inr (hw _ (List.mem_of_getElem? (i := 21) rfl))) (Or.inr (hw _ (List.mem_of_getElem? (i := 27) rfl))) (by decide) (t := (.array .int)) (t' := (.array .int)) (by decide) (by decide)))
      have F35_o0_byStart := Fld.other W35 F33_o0_byStart (Or.inr (slot_ne (Or.inr (hw _ (List.mem_of_getElem? (i := 23) rfl))) (Or.inr (hw _ (List.mem_of_getElem? (i := 27) rfl))) (by decide) (t := (.array .int)) (t' := (.array .int)) (by decide) (by decide)))
      have F35_o0_byEnd := Fld.other W35 F33_o0_byEnd (Or.inr (slot_ne (Or.inr (hw _ (List.mem_of_getElem? (i := 25) rfl))) (Or.inr (hw _ (List.mem_of_getElem? (i := 27) rfl))) (by decide) (t := (.array .int)) (t' := (.array .int)) (by decide) (by decide)))
      have F35_o0_asked := Fld.other W35 F33_o0_asked (Or.inr (slot_ne (Or.inr (hw _ (List.mem_of_getElem? (i := 29) rfl))) (Or.inr (hw _ (List.mem_of_getElem? (i := 27) rfl))) (by decide) (t := (.array .long)) (t' := (.array .int)) (by decide) (by decide)))
      have F35_o0_open := Fld.other W35 F33_o0_open (Or.inr (slot_ne (Or.inr (hw _ (List.mem_of_getElem? (i := 31) rfl))) (Or.inr (hw _ (List.mem_of_getElem? (i := 27) rfl))) (by decide) (t := (.array .long)) (t' := (.array .int)) (by decide) (by decide)))
      have F35_o0_ending := Fld.other W35 F33_o0_ending (Or.inr (slot_ne (Or.inr (hw _ (List.mem_of_getElem? (i := 33) rfl))) (Or.inr (hw _ (List.mem_of_getElem? (i := 27) rfl))) (by decide) (t := (.array .long)) (t' := (.array .int)) (by decide) (by decide)))
      have A35_a2 := OAr.other W35 A33_a2 (Ne.symm ne_o0_a2)
      have A35_a15 := OAr.other W35 A33_a15 (Ne.symm ne_o0_a15)
      have A35_a18 := OAr.other W35 A33_a18 (Ne.symm ne_o0_a18)
      have A35_a21 := OAr.other W35 A33_a21 (Ne.symm ne_o0_a21)
      have A35_a24 := OAr.other W35 A33_a24 (Ne.symm ne_o0_a24)
      have A35_a27 := OAr.other W35 A33_a27 (Ne.symm ne_o0_a27)
      have A35_a30 := OAr.other W35 A33_a30 (Ne.symm ne_o0_a30)
      have A35_a33 := OAr.other W35 A33 (Ne.symm ne_o0_a33)
      have N35 := Fr.snoc X35 N32 g_o0
      have z35 : n0 ≤ h35.size := Nat.le_trans z33 (Keep.of_wr W35).1
      have K35 := Keep.wr K33 W35 (Or.inl (by simp))
      refine o_aload_n X35 hx (hb hby d1_97) rfl rfl (pc' := 98) rfl ?_
      refine o_iconst X35 hx (hb hby d1_98) (3 : Int32) rfl (pc' := 99) rfl ?_
      refine o_iload_n X35 hx (hb hby d1_99) rfl (pc' := 100) rfl ?_
      refine o_imul X35 hx (hb hby d1_100) (pc' := 101) rfl ?_
      by_cases hg37 : (¬ (((3 : Int32) * x1) < 0) ∧ ((3 : Int32) * x1).toNatClampNeg ≤ 12)
      case neg => rw [if_neg hg37] at hr; cases hr
      rw [if_pos hg37] at hr
      refine o_newarr X35 hx hZ e35 (hw _ (List.mem_of_getElem? (i := 10) rfl)) (hb hby d1_101) (And.left hg37) 12 (And.right hg37) (by decide) (by decide) (by decide) (pc' := 103) rfl ?_
      intro T36 h36 a36 X36 e36 q36 E36 A36
      have g36 : n0 ≤ a36 := Nat.le_trans z35 (Nat.le_of_eq q36.symm)
      have ne_o0_a36 : o0 ≠ a36 := by rw [q36]; exact Nat.ne_of_lt (A35_o0.lt)
      have ne_a2_a36 : a2 ≠ a36 := by rw [q36]; exact Nat.ne_of_lt (A35_a2.lt)
      have ne_a15_a36 : a15 ≠ a36 := by rw [q36]; exact Nat.ne_of_lt (A35_a15.lt)
      have ne_a18_a36 : a18 ≠ a36 := by rw [q36]; exact Nat.ne_of_lt (A35_a18.lt)
      have ne_a21_a36 : a21 ≠ a36 := by rw [q36]; exact Nat.ne_of_lt (A35_a21.lt)
      have ne_a24_a36 : a24 ≠ a36 := by rw [q36]; exact Nat.ne_of_lt (A35_a24.lt)
      have ne_a27_a36 : a27 ≠ a36 := by rw [q36]; exact Nat.ne_of_lt (A35_a27.lt)
      have ne_a30_a36 : a30 ≠ a36 := by rw [q36]; exact Nat.ne_of_lt (A35_a30.lt)
      have ne_a33_a36 : a33 ≠ a36 := by rw [q36]; exact Nat.ne_of_lt (A35_a33.lt)
      have s36 : h0.size ≤ a36 := Nat.le_trans K35.1 (Nat.le_of_eq q36.symm)
      have A36_o0 := Exa.ext E36 A35_o0
      have F36_o0_keys := Fld.ext E36 F35_o0_keys
      have F36_o0_times := Fld.ext E36 F35_o0_times
      have F36_o0_startPlaces := Fld.ext E36 F35_o0_startPlaces
      have F36_o0_endPlaces := Fld.ext E36 F35_o0_endPlaces
      have F36_o0_closePlaces := Fld.ext E36 F35_o0_closePlaces
      have F36_o0_byStart := Fld.ext E36 F35_o0_byStart
      have F36_o0_byEnd := Fld.ext E36 F35_o0_byEnd
      have F36_o0_byLatestEnd := Fld.ext E36 F35_o0_byLatestEnd
      have F36_o0_asked := Fld.ext E36 F35_o0_asked
      have F36_o0_open := Fld.ext E36 F35_o0_open
      have F36_o0_ending := Fld.ext E36 F35_o0_ending
      have A36_a2 := OAr.ext E36 A35_a2
      have A36_a15 := OAr.ext E36 A35_a15
      have A36_a18 := OAr.ext E36 A35_a18
      have A36_a21 := OAr.ext E36 A35_a21
      have A36_a24 := OAr.ext E36 A35_a24
      have A36_a27 := OAr.ext E36 A35_a27
      have A36_a30 := OAr.ext E36 A35_a30
      have A36_a33 := OAr.ext E36 A35_a33
      have z36 : n0 ≤ h36.size := Nat.le_trans z35 E36.1
      have K36 := Keep.ext K35 E36
      replace A36 : OAr Z h36 a36 .long (Int32.toNatClampNeg ((3 : Int32) * x1)) (cj (fun _ => 0)) := A36
      refine o_putF X36 hx hZ hown e36 (hw _ (List.mem_of_getElem? (i := 28) rfl)) Via.refl F36_o0_asked A36_o0 (Or.inr ⟨(hw _ (List.mem_of_getElem? (i := 29) rfl)), rfl, hnm⟩) (hw _ (List.mem_of_getElem? (i := 2) rfl)) (ty := (.array .long)) (by decide) rfl rfl (hb hby d1_103) (pc' := 106) rfl ?_
      intro T38 h38 X38 e38 W38
      have F38_o0_asked := Fld.same W38 F36_o0_asked
      have A38_o0 := Exa.wr W38 A36_o0
      have F38_o0_keys := Fld.other W38 F36_o0_keys (Or.inr (slot_ne (Or.inr (hw _ (List.mem_of_getElem? (i := 12) rfl))) (Or.inr (hw _ (List.mem_of_getElem? (i := 29) rfl))) (by decide) (t := (.array .long)) (t' := (.array .long)) (by decide) (by decide)))
      have F38_o0_times := Fld.other W38 F36_o0_times (Or.inr (slot_ne (Or.inr (hw _ (List.mem_of_getElem? (i := 15) rfl))) (Or.inr (hw _ (List.mem_of_getElem? (i := 29) rfl))) (by decide) (t := (.array .int)) (t' := (.array .long)) (by decide) (by decide)))
      have F38_o0_startPlaces := Fld.other W38 F36_o0_startPlaces (Or.inr (slot_ne (Or.inr (hw _ (List.mem_of_getElem? (i := 17) rfl))) (Or.inr (hw _ (List.mem_of_getElem? (i := 29) rfl))) (by decide) (t := (.array .int)) (t' := (.array .long)) (by decide) (by decide)))
      have F38_o0_endPlaces := Fld.other W38 F36_o0_endPlaces (Or.inr (slot_ne (Or.inr (hw _ (List.mem_of_getElem? (i := 19) rfl))) (Or.inr (hw _ (List.mem_of_getElem? (i := 29) rfl))) (by decide) (t := (.array .int)) (t' := (.array .long)) (by decide) (by decide)))
      have F38_o0_closePlaces := Fld.other W38 F36_o0_closePlaces (Or.inr (slot_ne (Or.inr (hw _ (List.mem_of_getElem? (i := 21) rfl))) (Or.inr (hw _ (List.mem_of_getElem? (i := 29) rfl))) (by decide) (t := (.array .int)) (t' := (.array .long)) (by decide) (by decide)))
      have F38_o0_byStart := Fld.other W38 F36_o0_byStart (Or.inr (slot_ne (Or.inr (hw _ (List.mem_of_getElem? (i := 23) rfl))) (Or.inr (hw _ (List.mem_of_getElem? (i := 29) rfl))) (by decide) (t := (.array .int)) (t' := (.array .long)) (by decide) (by decide)))
      have F38_o0_byEnd := Fld.other W38 F36_o0_byEnd (Or.inr (slot_ne (Or.inr (hw _ (List.mem_of_getElem? (i := 25) rfl))) (Or.inr (hw _ (List.mem_of_getElem? (i := 29) rfl))) (by decide) (t := (.array .int)) (t' := (.array .long)) (by decide) (by decide)))
      have F38_o0_byLatestEnd := Fld.other W38 F36_o0_byLatestEnd (Or.inr (slot_ne (Or.inr (hw _ (List.mem_of_getElem? (i := 27) rfl))) (Or.inr (hw _ (List.mem_of_getElem? (i := 29) rfl))) (by decide) (t := (.array .int)) (t' := (.array .long)) (by decide) (by decide)))
      have F38_o0_open := Fld.other W38 F36_o0_open (Or.inr (slot_ne (Or.inr (hw _ (List.mem_of_getElem? (i := 31) rfl))) (Or.inr (hw _ (List.mem_of_getElem? (i := 29) rfl))) (by decide) (t := (.array .long)) (t' := (.array .long)) (by decide) (by decide)))
      have F38_o0_ending := Fld.other W38 F36_o0_ending (Or.inr (slot_ne (Or.inr (hw _ (List.mem_of_getElem? (i := 33) rfl))) (Or.inr (hw _ (List.mem_of_getElem? (i := 29) rfl))) (by decide) (t := (.array .long)) (t' := (.array .long)) (by decide) (by decide)))
      have A38_a2 := OAr.other W38 A36_a2 (Ne.symm ne_o0_a2)
      have A38_a15 := OAr.other W38 A36_a15 (Ne.symm ne_o0_a15)
      have A38_a18 := OAr.other W38 A36_a18 (Ne.symm ne_o0_a18)
      have A38_a21 := OAr.other W38 A36_a21 (Ne.symm ne_o0_a21)
      have A38_a24 := OAr.other W38 A36_a24 (Ne.symm ne_o0_a24)
      have A38_a27 := OAr.other W38 A36_a27 (Ne.symm ne_o0_a27)
      have A38_a30 := OAr.other W38 A36_a30 (Ne.symm ne_o0_a30)
      have A38_a33 := OAr.other W38 A36_a33 (Ne.symm ne_o0_a33)
      have A38_a36 := OAr.other W38 A36 (Ne.symm ne_o0_a36)
      have N38 := Fr.snoc X38 N35 g_o0
      have z38 : n0 ≤ h38.size := Nat.le_trans z36 (Keep.of_wr W38).1
      have K38 := Keep.wr K36 W38 (Or.inl (by simp))
      refine o_aload_n X38 hx (hb hby d1_106) rfl rfl (pc' := 107) rfl ?_
      refine o_iconst X38 hx (hb hby d1_107) (3 : Int32) rfl (pc' := 108) rfl ?_
      refine o_iload_n X38 hx (hb hby d1_108) rfl (pc' := 109) rfl ?_
      refine o_imul X38 hx (hb hby d1_109) (pc' := 110) rfl ?_
      by_cases hg40 : (¬ (((3 : Int32) * x1) < 0) ∧ ((3 : Int32) * x1).toNatClampNeg ≤ 12)
      case neg => rw [if_neg hg40] at hr; cases hr
      rw [if_pos hg40] at hr
      refine o_newarr X38 hx hZ e38 (hw _ (List.mem_of_getElem? (i := 10) rfl)) (hb hby d1_110) (And.left hg40) 12 (And.right hg40) (by decide) (by decide) (by decide) (pc' := 112) rfl ?_
      intro T39 h39 a39 X39 e39 q39 E39 A39
      have g39 : n0 ≤ a39 := Nat.le_trans z38 (Nat.le_of_eq q39.symm)
      have ne_o0_a39 : o0 ≠ a39 := by rw [q39]; exact Nat.ne_of_lt (A38_o0.lt)
      have ne_a2_a39 : a2 ≠ a39 := by rw [q39]; exact Nat.ne_of_lt (A38_a2.lt)
      have ne_a15_a39 : a15 ≠ a39 := by rw [q39]; exact Nat.ne_of_lt (A38_a15.lt)
      have ne_a18_a39 : a18 ≠ a39 := by rw [q39]; exact Nat.ne_of_lt (A38_a18.lt)
      have ne_a21_a39 : a21 ≠ a39 := by rw [q39]; exact Nat.ne_of_lt (A38_a21.lt)
      have ne_a24_a39 : a24 ≠ a39 := by rw [q39]; exact Nat.ne_of_lt (A38_a24.lt)
      have ne_a27_a39 : a27 ≠ a39 := by rw [q39]; exact Nat.ne_of_lt (A38_a27.lt)
      have ne_a30_a39 : a30 ≠ a39 := by rw [q39]; exact Nat.ne_of_lt (A38_a30.lt)
      have ne_a33_a39 : a33 ≠ a39 := by rw [q39]; exact Nat.ne_of_lt (A38_a33.lt)
      have ne_a36_a39 : a36 ≠ a39 := by rw [q39]; exact Nat.ne_of_lt (A38_a36.lt)
      have s39 : h0.size ≤ a39 := Nat.le_trans K38.1 (Nat.le_of_eq q39.symm)
      have A39_o0 := Exa.ext E39 A38_o0
      have F39_o0_keys := Fld.ext E39 F38_o0_keys
      have F39_o0_times := Fld.ext E39 F38_o0_times
      have F39_o0_startPlaces := Fld.ext E39 F38_o0_startPlaces
      have F39_o0_endPlaces := Fld.ext E39 F38_o0_endPlaces
      have F39_o0_closePlaces := Fld.ext E39 F38_o0_closePlaces
      have F39_o0_byStart := Fld.ext E39 F38_o0_byStart
      have F39_o0_byEnd := Fld.ext E39 F38_o0_byEnd
      have F39_o0_byLatestEnd := Fld.ext E39 F38_o0_byLatestEnd
      have F39_o0_asked := Fld.ext E39 F38_o0_asked
      have F39_o0_open := Fld.ext E39 F38_o0_open
      have F39_o0_ending := Fld.ext E39 F38_o0_ending
      have A39_a2 := OAr.ext E39 A38_a2
      have A39_a15 := OAr.ext E39 A38_a15
      have A39_a18 := OAr.ext E39 A38_a18
      have A39_a21 := OAr.ext E39 A38_a21
      have A39_a24 := OAr.ext E39 A38_a24
      have A39_a27 := OAr.ext E39 A38_a27
      have A39_a30 := OAr.ext E39 A38_a30
      have A39_a33 := OAr.ext E39 A38_a33
      have A39_a36 := OAr.ext E39 A38_a36
      have z39 : n0 ≤ h39.size := Nat.le_trans z38 E39.1
      have K39 := Keep.ext K38 E39
      replace A39 : OAr Z h39 a39 .long (Int32.toNatClampNeg ((3 : Int32) * x1)) (cj (fun _ => 0)) := A39
      refine o_putF X39 hx hZ hown e39 (hw _ (List.mem_of_getElem? (i := 30) rfl)) Via.refl F39_o0_open A39_o0 (Or.inr ⟨(hw _ (List.mem_of_getElem? (i := 31) rfl)), rfl, hnm⟩) (hw _ (List.mem_of_getElem? (i := 2) rfl)) (ty := (.array .long)) (by decide) rfl rfl (hb hby d1_112) (pc' := 115) rfl ?_
      intro T41 h41 X41 e41 W41
      have F41_o0_open := Fld.same W41 F39_o0_open
      have A41_o0 := Exa.wr W41 A39_o0
      have F41_o0_keys := Fld.other W41 F39_o0_keys (Or.inr (slot_ne (Or.inr (hw _ (List.mem_of_getElem? (i := 12) rfl))) (Or.inr (hw _ (List.mem_of_getElem? (i := 31) rfl))) (by decide) (t := (.array .long)) (t' := (.array .long)) (by decide) (by decide)))
      have F41_o0_times := Fld.other W41 F39_o0_times (Or.inr (slot_ne (Or.inr (hw _ (List.mem_of_getElem? (i := 15) rfl))) (Or.inr (hw _ (List.mem_of_getElem? (i := 31) rfl))) (by decide) (t := (.array .int)) (t' := (.array .long)) (by decide) (by decide)))
      have F41_o0_startPlaces := Fld.other W41 F39_o0_startPlaces (Or.inr (slot_ne (Or.inr (hw _ (List.mem_of_getElem? (i := 17) rfl))) (Or.inr (hw _ (List.mem_of_getElem? (i := 31) rfl))) (by decide) (t := (.array .int)) (t' := (.array .long)) (by decide) (by decide)))
      have F41_o0_endPlaces := Fld.other W41 F39_o0_endPlaces (Or.inr (slot_ne (Or.inr (hw _ (List.mem_of_getElem? (i := 19) rfl))) (Or.inr (hw _ (List.mem_of_getElem? (i := 31) rfl))) (by decide) (t := (.array .int)) (t' := (.array .long)) (by decide) (by decide)))
      have F41_o0_closePlaces := Fld.other W41 F39_o0_closePlaces (Or.inr (slot_ne (Or.inr (hw _ (List.mem_of_getElem? (i := 21) rfl))) (Or.inr (hw _ (List.mem_of_getElem? (i := 31) rfl))) (by decide) (t := (.array .int)) (t' := (.array .long)) (by decide) (by decide)))
      have F41_o0_byStart := Fld.other W41 F39_o0_byStart (Or.inr (slot_ne (Or.inr (hw _ (List.mem_of_getElem? (i := 23) rfl))) (Or.inr (hw _ (List.mem_of_getElem? (i := 31) rfl))) (by decide) (t := (.array .int)) (t' := (.array .long)) (by decide) (by decide)))
      have F41_o0_byEnd := Fld.other W41 F39_o0_byEnd (Or.inr (slot_ne (Or.inr (hw _ (List.mem_of_getElem? (i := 25) rfl))) (Or.inr (hw _ (List.mem_of_getElem? (i := 31) rfl))) (by decide) (t := (.array .int)) (t' := (.array .long)) (by decide) (by decide)))
      have F41_o0_byLatestEnd := Fld.other W41 F39_o0_byLatestEnd (Or.inr (slot_ne (Or.inr (hw _ (List.mem_of_getElem? (i := 27) rfl))) (Or.inr (hw _ (List.mem_of_getElem? (i := 31) rfl))) (by decide) (t := (.array .int)) (t' := (.array .long)) (by decide) (by decide)))
      have F41_o0_asked := Fld.other W41 F39_o0_asked (Or.inr (slot_ne (Or.inr (hw _ (List.mem_of_getElem? (i := 29) rfl))) (Or.inr (hw _ (List.mem_of_getElem? (i := 31) rfl))) (by decide) (t := (.array .long)) (t' := (.array .long)) (by decide) (by decide)))
      have F41_o0_ending := Fld.other W41 F39_o0_ending (Or.inr (slot_ne (Or.inr (hw _ (List.mem_of_getElem? (i := 33) rfl))) (Or.inr (hw _ (List.mem_of_getElem? (i := 31) rfl))) (by decide) (t := (.array .long)) (t' := (.array .long)) (by decide) (by decide)))
      have A41_a2 := OAr.other W41 A39_a2 (Ne.symm ne_o0_a2)
      have A41_a15 := OAr.other W41 A39_a15 (Ne.symm ne_o0_a15)
      have A41_a18 := OAr.other W41 A39_a18 (Ne.symm ne_o0_a18)
      have A41_a21 := OAr.other W41 A39_a21 (Ne.symm ne_o0_a21)
      have A41_a24 := OAr.other W41 A39_a24 (Ne.symm ne_o0_a24)
      have A41_a27 := OAr.other W41 A39_a27 (Ne.symm ne_o0_a27)
      have A41_a30 := OAr.other W41 A39_a30 (Ne.symm ne_o0_a30)
      have A41_a33 := OAr.other W41 A39_a33 (Ne.symm ne_o0_a33)
      have A41_a36 := OAr.other W41 A39_a36 (Ne.symm ne_o0_a36)
      have A41_a39 := OAr.other W41 A39 (Ne.symm ne_o0_a39)
      have N41 := Fr.snoc X41 N38 g_o0
      have z41 : n0 ≤ h41.size := Nat.le_trans z39 (Keep.of_wr W41).1
      have K41 := Keep.wr K39 W41 (Or.inl (by simp))
      refine o_aload_n X41 hx (hb hby d1_115) rfl rfl (pc' := 116) rfl ?_
      refine o_iconst X41 hx (hb hby d1_116) (3 : Int32) rfl (pc' := 117) rfl ?_
      refine o_iload_n X41 hx (hb hby d1_117) rfl (pc' := 118) rfl ?_
      refine o_imul X41 hx (hb hby d1_118) (pc' := 119) rfl ?_
      by_cases hg43 : (¬ (((3 : Int32) * x1) < 0) ∧ ((3 : Int32) * x1).toNatClampNeg ≤ 12)
      case neg => rw [if_neg hg43] at hr; cases hr
      rw [if_pos hg43] at hr
      refine o_newarr X41 hx hZ e41 (hw _ (List.mem_of_getElem? (i := 10) rfl)) (hb hby d1_119) (And.left hg43) 12 (And.right hg43) (by decide) (by decide) (by decide) (pc' := 121) rfl ?_
      intro T42 h42 a42 X42 e42 q42 E42 A42
      have g42 : n0 ≤ a42 := Nat.le_trans z41 (Nat.le_of_eq q42.symm)
      have ne_o0_a42 : o0 ≠ a42 := by rw [q42]; exact Nat.ne_of_lt (A41_o0.lt)
      have ne_a2_a42 : a2 ≠ a42 := by rw [q42]; exact Nat.ne_of_lt (A41_a2.lt)
      have ne_a15_a42 : a15 ≠ a42 := by rw [q42]; exact Nat.ne_of_lt (A41_a15.lt)
      have ne_a18_a42 : a18 ≠ a42 := by rw [q42]; exact Nat.ne_of_lt (A41_a18.lt)
      have ne_a21_a42 : a21 ≠ a42 := by rw [q42]; exact Nat.ne_of_lt (A41_a21.lt)
      have ne_a24_a42 : a24 ≠ a42 := by rw [q42]; exact Nat.ne_of_lt (A41_a24.lt)
      have ne_a27_a42 : a27 ≠ a42 := by rw [q42]; exact Nat.ne_of_lt (A41_a27.lt)
      have ne_a30_a42 : a30 ≠ a42 := by rw [q42]; exact Nat.ne_of_lt (A41_a30.lt)
      have ne_a33_a42 : a33 ≠ a42 := by rw [q42]; exact Nat.ne_of_lt (A41_a33.lt)
      have ne_a36_a42 : a36 ≠ a42 := by rw [q42]; exact Nat.ne_of_lt (A41_a36.lt)
      have ne_a39_a42 : a39 ≠ a42 := by rw [q42]; exact Nat.ne_of_lt (A41_a39.lt)
      have s42 : h0.size ≤ a42 := Nat.le_trans K41.1 (Nat.le_of_eq q42.symm)
      have A42_o0 := Exa.ext E42 A41_o0
      have F42_o0_keys := Fld.ext E42 F41_o0_keys
      have F42_o0_times := Fld.ext E42 F41_o0_times
      have F42_o0_startPlaces := Fld.ext E42 F41_o0_startPlaces
      have F42_o0_endPlaces := Fld.ext E42 F41_o0_endPlaces
      have F42_o0_closePlaces := Fld.ext E42 F41_o0_closePlaces
      have F42_o0_byStart := Fld.ext E42 F41_o0_byStart
      have F42_o0_byEnd := Fld.ext E42 F41_o0_byEnd
      have F42_o0_byLatestEnd := Fld.ext E42 F41_o0_byLatestEnd
      have F42_o0_asked := Fld.ext E42 F41_o0_asked
      have F42_o0_open := Fld.ext E42 F41_o0_open
      have F42_o0_ending := Fld.ext E42 F41_o0_ending
      have A42_a2 := OAr.ext E42 A41_a2
      have A42_a15 := OAr.ext E42 A41_a15
      have A42_a18 := OAr.ext E42 A41_a18
      have A42_a21 := OAr.ext E42 A41_a21
      have A42_a24 := OAr.ext E42 A41_a24
      have A42_a27 := OAr.ext E42 A41_a27
      have A42_a30 := OAr.ext E42 A41_a30
      have A42_a33 := OAr.ext E42 A41_a33
      have A42_a36 := OAr.ext E42 A41_a36
      have A42_a39 := OAr.ext E42 A41_a39
      have z42 : n0 ≤ h42.size := Nat.le_trans z41 E42.1
      have K42 := Keep.ext K41 E42
      replace A42 : OAr Z h42 a42 .long (Int32.toNatClampNeg ((3 : Int32) * x1)) (cj (fun _ => 0)) := A42
      refine o_putF X42 hx hZ hown e42 (hw _ (List.mem_of_getElem? (i := 32) rfl)) Via.refl F42_o0_ending A42_o0 (Or.inr ⟨(hw _ (List.mem_of_getElem? (i := 33) rfl)), rfl, hnm⟩) (hw _ (List.mem_of_getElem? (i := 2) rfl)) (ty := (.array .long)) (by decide) rfl rfl (hb hby d1_121) (pc' := 124) rfl ?_
      intro T44 h44 X44 e44 W44
      have F44_o0_ending := Fld.same W44 F42_o0_ending
      have A44_o0 := Exa.wr W44 A42_o0
      have F44_o0_keys := Fld.other W44 F42_o0_keys (Or.inr (slot_ne (Or.inr (hw _ (List.mem_of_getElem? (i := 12) rfl))) (Or.inr (hw _ (List.mem_of_getElem? (i := 33) rfl))) (by decide) (t := (.array .long)) (t' := (.array .long)) (by decide) (by decide)))
      have F44_o0_times := Fld.other W44 F42_o0_times (Or.inr (slot_ne (Or.inr (hw _ (List.mem_of_getElem? (i := 15) rfl))) (Or.inr (hw _ (List.mem_of_getElem? (i := 33) rfl))) (by decide) (t := (.array .int)) (t' := (.array .long)) (by decide) (by decide)))
      have F44_o0_startPlaces := Fld.other W44 F42_o0_startPlaces (Or.inr (slot_ne (Or.inr (hw _ (List.mem_of_getElem? (i := 17) rfl))) (Or.inr (hw _ (List.mem_of_getElem? (i := 33) rfl))) (by decide) (t := (.array .int)) (t' := (.array .long)) (by decide) (by decide)))
      have F44_o0_endPlaces := Fld.other W44 F42_o0_endPlaces (Or.inr (slot_ne (Or.inr (hw _ (List.mem_of_getElem? (i := 19) rfl))) (Or.inr (hw _ (List.mem_of_getElem? (i := 33) rfl))) (by decide) (t := (.array .int)) (t' := (.array .long)) (by decide) (by decide)))
      have F44_o0_closePlaces := Fld.other W44 F42_o0_closePlaces (Or.inr (slot_ne (Or.inr (hw _ (List.mem_of_getElem? (i := 21) rfl))) (Or.inr (hw _ (List.mem_of_getElem? (i := 33) rfl))) (by decide) (t := (.array .int)) (t' := (.array .long)) (by decide) (by decide)))
      have F44_o0_byStart := Fld.other W44 F42_o0_byStart (Or.inr (slot_ne (Or.inr (hw _ (List.mem_of_getElem? (i := 23) rfl))) (Or.inr (hw _ (List.mem_of_getElem? (i := 33) rfl))) (by decide) (t := (.array .int)) (t' := (.array .long)) (by decide) (by decide)))
      have F44_o0_byEnd := Fld.other W44 F42_o0_byEnd (Or.inr (slot_ne (Or.inr (hw _ (List.mem_of_getElem? (i := 25) rfl))) (Or.inr (hw _ (List.mem_of_getElem? (i := 33) rfl))) (by decide) (t := (.array .int)) (t' := (.array .long)) (by decide) (by decide)))
      have F44_o0_byLatestEnd := Fld.other W44 F42_o0_byLatestEnd (Or.inr (slot_ne (Or.inr (hw _ (List.mem_of_getElem? (i := 27) rfl))) (Or.inr (hw _ (List.mem_of_getElem? (i := 33) rfl))) (by decide) (t := (.array .int)) (t' := (.array .long)) (by decide) (by decide)))
      have F44_o0_asked := Fld.other W44 F42_o0_asked (Or.inr (slot_ne (Or.inr (hw _ (List.mem_of_getElem? (i := 29) rfl))) (Or.inr (hw _ (List.mem_of_getElem? (i := 33) rfl))) (by decide) (t := (.array .long)) (t' := (.array .long)) (by decide) (by decide)))
      have F44_o0_open := Fld.other W44 F42_o0_open (Or.inr (slot_ne (Or.inr (hw _ (List.mem_of_getElem? (i := 31) rfl))) (Or.inr (hw _ (List.mem_of_getElem? (i := 33) rfl))) (by decide) (t := (.array .long)) (t' := (.array .long)) (by decide) (by decide)))
      have A44_a2 := OAr.other W44 A42_a2 (Ne.symm ne_o0_a2)
      have A44_a15 := OAr.other W44 A42_a15 (Ne.symm ne_o0_a15)
      have A44_a18 := OAr.other W44 A42_a18 (Ne.symm ne_o0_a18)
      have A44_a21 := OAr.other W44 A42_a21 (Ne.symm ne_o0_a21)
      have A44_a24 := OAr.other W44 A42_a24 (Ne.symm ne_o0_a24)
      have A44_a27 := OAr.other W44 A42_a27 (Ne.symm ne_o0_a27)
      have A44_a30 := OAr.other W44 A42_a30 (Ne.symm ne_o0_a30)
      have A44_a33 := OAr.other W44 A42_a33 (Ne.symm ne_o0_a33)
      have A44_a36 := OAr.other W44 A42_a36 (Ne.symm ne_o0_a36)
      have A44_a39 := OAr.other W44 A42_a39 (Ne.symm ne_o0_a39)
      have A44_a42 := OAr.other W44 A42 (Ne.symm ne_o0_a42)
      have N44 := Fr.snoc X44 N41 g_o0
      have z44 : n0 ≤ h44.size := Nat.le_trans z42 (Keep.of_wr W44).1
      have K44 := Keep.wr K42 W44 (Or.inl (by simp))
      obtain rfl : ((Int32.toNatClampNeg ((3 : Int32) * x1)), (fun _ => 0)) = r := Option.some.inj hr
      exact o_ret X44 hx hlk hret (hb hby d1_124) (by rw [e44]; exact ⟨rfl, N44, K44, A44_o0, ⟨a15, g15, F44_o0_times, A44_a15⟩⟩) (by decide) (by decide)
def f1_15 : Nat → (Nat → Int64) → Int32 → Int32 → Int32 → Option (Nat × (Nat → Int32))
  | 0, _, _, _, _ => none
  | k + 1, c_a2, z_a2, x1, x2 => (if x2 < z_a2 then (if (¬ (x2 < 0) ∧ Int32.toNatClampNeg x2 < (Int32.toNatClampNeg z_a2)) then (f1_15a k (updJ c_a2 (Int32.toNatClampNeg x2) ((((x2 / (3 : Int32)) <<< ((2 : Int32) &&& 31)) ||| (x2 % (3 : Int32))).toInt64)) z_a2 x1 (x2 + (1 : Int32))) else none) else (if (¬ (((3 : Int32) * x1) < 0) ∧ ((3 : Int32) * x1).toNatClampNeg ≤ 12) then (if (¬ (x1 < 0) ∧ x1.toNatClampNeg ≤ 4) then (if (¬ (x1 < 0) ∧ x1.toNatClampNeg ≤ 4) then (if (¬ (x1 < 0) ∧ x1.toNatClampNeg ≤ 4) then (if (¬ (x1 < 0) ∧ x1.toNatClampNeg ≤ 4) then (if (¬ (x1 < 0) ∧ x1.toNatClampNeg ≤ 4) then (if (¬ (x1 < 0) ∧ x1.toNatClampNeg ≤ 4) then (if (¬ (((3 : Int32) * x1) < 0) ∧ ((3 : Int32) * x1).toNatClampNeg ≤ 12) then (if (¬ (((3 : Int32) * x1) < 0) ∧ ((3 : Int32) * x1).toNatClampNeg ≤ 12) then (if (¬ (((3 : Int32) * x1) < 0) ∧ ((3 : Int32) * x1).toNatClampNeg ≤ 12) then (some ((Int32.toNatClampNeg ((3 : Int32) * x1)), (fun _ => 0))) else none) else none) else none) else none) else none) else none) else none) else none) else none) else none))
set_option maxRecDepth 65536 in
set_option maxHeartbeats 40000000 in
theorem b1_15 {p : Program} {l : Launch} {e : Env} {s : State} {m : MethodId} {args : Array Value} {below : List Frame} {meth : Method} {c : Code} {Z : State} {a0 : Array Value} {h0 : Heap} {n0 : Nat} (hx : p.tables.exec = Jvm.exec) (hZ : Z.Warmed39 s.vm) (hw : ∀ d ∈ tables_1, d.before a0 Z = true) (hby : c.code = prog_36_method_1_code) (hml : c.maxLocals = 3) (hown : s.vm.findClass "com/example/ridgeline/ridgeline/filtering/Places" = some m.cls) (hnm : meth.name = "<init>") (hret : meth.sig.returnType = none) (hlk : meth.locks = false) (o0 : Addr) : ∀ (k : Nat) {T : State} {locs : List Loc} {h : Heap} (u_times : Value) (u_startPlaces : Value) (u_endPlaces : Value) (u_closePlaces : Value) (u_byStart : Value) (u_byEnd : Value) (u_byLatestEnd : Value) (u_asked : Value) (u_open : Value) (u_ending : Value) (a2 : Addr) (c_a2 : Nat → Int64) (z_a2 : Int32) (x1 : Int32) (x2 : Int32) (r : Nat × (Nat → Int32)) (X : Stand p l e ({ frames := 1, cells := 11, slots := 84, locals := 12 } : Room) s m args below meth c T locs 1 12) (eT : T.heap = h) (N : Fr n0 locs) (hsz : n0 ≤ h.size) (K : Keep h0 h [o0]) (E_o0 : Exa Z h o0 "com/example/ridgeline/ridgeline/filtering/Places") (F_o0_keys : Fld Z h o0 "com/example/ridgeline/ridgeline/filtering/Places" "keys" "[J" (.ref a2)) (F_o0_times : Fld Z h o0 "com/example/ridgeline/ridgeline/filtering/Places" "times" "[I" u_times) (F_o0_startPlaces : Fld Z h o0 "com/example/ridgeline/ridgeline/filtering/Places" "startPlaces" "[I" u_startPlaces) (F_o0_endPlaces : Fld Z h o0 "com/example/ridgeline/ridgeline/filtering/Places" "endPlaces" "[I" u_endPlaces) (F_o0_closePlaces : Fld Z h o0 "com/example/ridgeline/ridgeline/filtering/Places" "closePlaces" "[I" u_closePlaces) (F_o0_byStart : Fld Z h o0 "com/example/ridgeline/ridgeline/filtering/Places" "byStart" "[I" u_byStart) (F_o0_byEnd : Fld Z h o0 "com/example/ridgeline/ridgeline/filtering/Places" "byEnd" "[I" u_byEnd) (F_o0_byLatestEnd : Fld Z h o0 "com/example/ridgeline/ridgeline/filtering/Places" "byLatestEnd" "[I" u_byLatestEnd) (F_o0_asked : Fld Z h o0 "com/example/ridgeline/ridgeline/filtering/Places" "asked" "[J" u_asked) (F_o0_open : Fld Z h o0 "com/example/ridgeline/ridgeline/filtering/Places" "open" "[J" u_open) (F_o0_ending : Fld Z h o0 "com/example/ridgeline/ridgeline/filtering/Places" "ending" "[J" u_ending) (g_o0 : n0 ≤ o0) (A_a2 : OAr Z h a2 .long (Int32.toNatClampNeg z_a2) (cj c_a2)) (hn_a2 : ¬ (z_a2 < 0)) (g_a2 : n0 ≤ a2) (s_a2 : h0.size ≤ a2) (ne_o0_a2 : o0 ≠ a2) (hr : f1_15 k c_a2 z_a2 x1 x2 = some r),
    OG p e below s (fun v h L => v = none ∧ Fr n0 L ∧ Keep h0 h [o0] ∧ Exa Z h o0 "com/example/ridgeline/ridgeline/filtering/Places" ∧ (∃ b : Addr, n0 ≤ b ∧ Fld Z h o0 "com/example/ridgeline/ridgeline/filtering/Places" "times" "[I" (.ref b) ∧ OAr Z h b .int r.1 (ci r.2))) 11 84 T (mkF m 15 #[.val (.ref o0), .val (.int x1), .val (.int x2)] []) := by
  intro k
  induction k with
  | zero => intros; rename_i hr; exact absurd hr (by intro q; cases q)
  | succ k ih =>
    intro T locs h u_times u_startPlaces u_endPlaces u_closePlaces u_byStart u_byEnd u_byLatestEnd u_asked u_open u_ending a2 c_a2 z_a2 x1 x2 r X eT N hsz K E_o0 F_o0_keys F_o0_times F_o0_startPlaces F_o0_endPlaces F_o0_closePlaces F_o0_byStart F_o0_byEnd F_o0_byLatestEnd F_o0_asked F_o0_open F_o0_ending g_o0 A_a2 hn_a2 g_a2 s_a2 ne_o0_a2 hr
    have hr : (if x2 < z_a2 then (if (¬ (x2 < 0) ∧ Int32.toNatClampNeg x2 < (Int32.toNatClampNeg z_a2)) then (f1_15a k (updJ c_a2 (Int32.toNatClampNeg x2) ((((x2 / (3 : Int32)) <<< ((2 : Int32) &&& 31)) ||| (x2 % (3 : Int32))).toInt64)) z_a2 x1 (x2 + (1 : Int32))) else none) else (if (¬ (((3 : Int32) * x1) < 0) ∧ ((3 : Int32) * x1).toNatClampNeg ≤ 12) then (if (¬ (x1 < 0) ∧ x1.toNatClampNeg ≤ 4) then (if (¬ (x1 < 0) ∧ x1.toNatClampNeg ≤ 4) then (if (¬ (x1 < 0) ∧ x1.toNatClampNeg ≤ 4) then (if (¬ (x1 < 0) ∧ x1.toNatClampNeg ≤ 4) then (if (¬ (x1 < 0) ∧ x1.toNatClampNeg ≤ 4) then (if (¬ (x1 < 0) ∧ x1.toNatClampNeg ≤ 4) then (if (¬ (((3 : Int32) * x1) < 0) ∧ ((3 : Int32) * x1).toNatClampNeg ≤ 12) then (if (¬ (((3 : Int32) * x1) < 0) ∧ ((3 : Int32) * x1).toNatClampNeg ≤ 12) then (if (¬ (((3 : Int32) * x1) < 0) ∧ ((3 : Int32) * x1).toNatClampNeg ≤ 12) then (some ((Int32.toNatClampNeg ((3 : Int32) * x1)), (fun _ => 0))) else none) else none) else none) else none) else none) else none) else none) else none) else none) else none)) = some r := hr
    refine o_iload_n X hx (hb hby d1_15) rfl (pc' := 16) rfl ?_
    refine o_aload_n X hx (hb hby d1_16) rfl rfl (pc' := 17) rfl ?_
    refine o_getF X hx hZ hown eT (hw _ (List.mem_of_getElem? (i := 11) rfl)) Via.refl F_o0_keys (hb hby d1_17) (pc' := 20) rfl ?_
    intro T5 X5 e5
    refine o_alen X5 hx hZ e5 A_a2 (hb hby d1_20) z_a2 (own_back hn_a2) (pc' := 21) rfl ?_
    by_cases hc6 : x2 < z_a2
    · rw [if_pos hc6] at hr
      refine o_icmpNo X5 hx (hb hby d1_21) (c_tlt hc6).2 (pc' := 24) rfl ?_
      refine o_aload_n X5 hx (hb hby d1_24) rfl rfl (pc' := 25) rfl ?_
      refine o_getF X5 hx hZ hown e5 (hw _ (List.mem_of_getElem? (i := 11) rfl)) Via.refl F_o0_keys (hb hby d1_25) (pc' := 28) rfl ?_
      intro T7 X7 e7
      refine o_iload_n X7 hx (hb hby d1_28) rfl (pc' := 29) rfl ?_
      refine o_iload_n X7 hx (hb hby d1_29) rfl (pc' := 30) rfl ?_
      refine o_iconst X7 hx (hb hby d1_30) (3 : Int32) rfl (pc' := 31) rfl ?_
      refine o_idiv X7 hx (hb hby d1_31) (by decide) (pc' := 32) rfl ?_
      refine o_iconst X7 hx (hb hby d1_32) (2 : Int32) rfl (pc' := 33) rfl ?_
      refine o_ishl X7 hx (hb hby d1_33) (pc' := 34) rfl ?_
      refine o_iload_n X7 hx (hb hby d1_34) rfl (pc' := 35) rfl ?_
      refine o_iconst X7 hx (hb hby d1_35) (3 : Int32) rfl (pc' := 36) rfl ?_
      refine o_irem X7 hx (hb hby d1_36) (by decide) (pc' := 37) rfl ?_
      refine o_ior X7 hx (hb hby d1_37) (pc' := 38) rfl ?_
      refine o_i2l X7 hx (hb hby d1_38) (pc' := 39) rfl ?_
      by_cases hg8 : (¬ (x2 < 0) ∧ Int32.toNatClampNeg x2 < (Int32.toNatClampNeg z_a2))
      case neg => rw [if_neg hg8] at hr; cases hr
      rw [if_pos hg8] at hr
      refine o_lastore X7 hx hZ e7 A_a2 (hb hby d1_39) (And.left hg8) (And.right hg8) (pc' := 40) rfl ?_
      intro T9 h9 X9 e9 W9
      have A9_o0 := Exa.wr W9 E_o0
      have F9_o0_keys := Fld.other W9 F_o0_keys (Or.inl ne_o0_a2)
      have F9_o0_times := Fld.other W9 F_o0_times (Or.inl ne_o0_a2)
      have F9_o0_startPlaces := Fld.other W9 F_o0_startPlaces (Or.inl ne_o0_a2)
      have F9_o0_endPlaces := Fld.other W9 F_o0_endPlaces (Or.inl ne_o0_a2)
      have F9_o0_closePlaces := Fld.other W9 F_o0_closePlaces (Or.inl ne_o0_a2)
      have F9_o0_byStart := Fld.other W9 F_o0_byStart (Or.inl ne_o0_a2)
      have F9_o0_byEnd := Fld.other W9 F_o0_byEnd (Or.inl ne_o0_a2)
      have F9_o0_byLatestEnd := Fld.other W9 F_o0_byLatestEnd (Or.inl ne_o0_a2)
      have F9_o0_asked := Fld.other W9 F_o0_asked (Or.inl ne_o0_a2)
      have F9_o0_open := Fld.other W9 F_o0_open (Or.inl ne_o0_a2)
      have F9_o0_ending := Fld.other W9 F_o0_ending (Or.inl ne_o0_a2)
      have A9 : OAr Z h9 a2 .long (Int32.toNatClampNeg z_a2) (cj (updJ c_a2 (Int32.toNatClampNeg x2) ((((x2 / (3 : Int32)) <<< ((2 : Int32) &&& 31)) ||| (x2 % (3 : Int32))).toInt64))) := OAr.updJ W9 A_a2
      have N9 := Fr.snoc X9 N g_a2
      have z9 : n0 ≤ h9.size := Nat.le_trans hsz (Keep.of_wr W9).1
      have K9 := Keep.wr K W9 (Or.inr s_a2)
      refine o_iinc X9 hx (hb hby d1_40) (1 : Int32) rfl rfl #[.val (.ref o0), .val (.int x1), .val (.int (x2 + (1 : Int32)))] rfl (pc' := 43) rfl ?_
      refine o_goto X9 hx (hb hby d1_43) (pc' := 15) (by decide) (by decide) ?_
      exact b1_15a hx hZ hw hby hml hown hnm hret hlk o0 k u_times u_startPlaces u_endPlaces u_closePlaces u_byStart u_byEnd u_byLatestEnd u_asked u_open u_ending a2 (updJ c_a2 (Int32.toNatClampNeg x2) ((((x2 / (3 : Int32)) <<< ((2 : Int32) &&& 31)) ||| (x2 % (3 : Int32))).toInt64)) z_a2 x1 (x2 + (1 : Int32)) r X9 e9 N9 z9 K9 A9_o0 F9_o0_keys F9_o0_times F9_o0_startPlaces F9_o0_endPlaces F9_o0_closePlaces F9_o0_byStart F9_o0_byEnd F9_o0_byLatestEnd F9_o0_asked F9_o0_open F9_o0_ending g_o0 A9 hn_a2 g_a2 s_a2 ne_o0_a2 hr
    · rw [if_neg hc6] at hr
      refine o_icmpYes X5 hx (hb hby d1_21) (c_flt hc6).2 (pc' := 46) (by decide) (by decide) ?_
      refine o_aload_n X5 hx (hb hby d1_46) rfl rfl (pc' := 47) rfl ?_
      refine o_iconst X5 hx (hb hby d1_47) (3 : Int32) rfl (pc' := 48) rfl ?_
      refine o_iload_n X5 hx (hb hby d1_48) rfl (pc' := 49) rfl ?_
      refine o_imul X5 hx (hb hby d1_49) (pc' := 50) rfl ?_
      by_cases hg46 : (¬ (((3 : Int32) * x1) < 0) ∧ ((3 : Int32) * x1).toNatClampNeg ≤ 12)
      case neg => rw [if_neg hg46] at hr; cases hr
      rw [if_pos hg46] at hr
      refine o_newarr X5 hx hZ e5 (hw _ (List.mem_of_getElem? (i := 13) rfl)) (hb hby d1_50) (And.left hg46) 12 (And.right hg46) (by decide) (by decide) (by decide) (pc' := 52) rfl ?_
      intro T45 h45 a45 X45 e45 q45 E45 A45
      have g45 : n0 ≤ a45 := Nat.le_trans hsz (Nat.le_of_eq q45.symm)
      have ne_o0_a45 : o0 ≠ a45 := by rw [q45]; exact Nat.ne_of_lt (E_o0.lt)
      have ne_a2_a45 : a2 ≠ a45 := by rw [q45]; exact Nat.ne_of_lt (A_a2.lt)
      have s45 : h0.size ≤ a45 := Nat.le_trans K.1 (Nat.le_of_eq q45.symm)
      have A45_o0 := Exa.ext E45 E_o0
      have F45_o0_keys := Fld.ext E45 F_o0_keys
      have F45_o0_times := Fld.ext E45 F_o0_times
      have F45_o0_startPlaces := Fld.ext E45 F_o0_startPlaces
      have F45_o0_endPlaces := Fld.ext E45 F_o0_endPlaces
      have F45_o0_closePlaces := Fld.ext E45 F_o0_closePlaces
      have F45_o0_byStart := Fld.ext E45 F_o0_byStart
      have F45_o0_byEnd := Fld.ext E45 F_o0_byEnd
      have F45_o0_byLatestEnd := Fld.ext E45 F_o0_byLatestEnd
      have F45_o0_asked := Fld.ext E45 F_o0_asked
      have F45_o0_open := Fld.ext E45 F_o0_open
      have F45_o0_ending := Fld.ext E45 F_o0_ending
      have A45_a2 := OAr.ext E45 A_a2
      have z45 : n0 ≤ h45.size := Nat.le_trans hsz E45.1
      have K45 := Keep.ext K E45
      replace A45 : OAr Z h45 a45 .int (Int32.toNatClampNeg ((3 : Int32) * x1)) (ci (fun _ => 0)) := A45
      refine o_putF X45 hx hZ hown e45 (hw _ (List.mem_of_getElem? (i := 14) rfl)) Via.refl F45_o0_times A45_o0 (Or.inr ⟨(hw _ (List.mem_of_getElem? (i := 15) rfl)), rfl, hnm⟩) (hw _ (List.mem_of_getElem? (i := 2) rfl)) (ty := (.array .int)) (by decide) rfl rfl (hb hby d1_52) (pc' := 55) rfl ?_
      intro T47 h47 X47 e47 W47
      have F47_o0_times := Fld.same W47 F45_o0_times
      have A47_o0 := Exa.wr W47 A45_o0
      have F47_o0_keys := Fld.other W47 F45_o0_keys (Or.inr (slot_ne (Or.inr (hw _ (List.mem_of_getElem? (i := 12) rfl))) (Or.inr (hw _ (List.mem_of_getElem? (i := 15) rfl))) (by decide) (t := (.array .long)) (t' := (.array .int)) (by decide) (by decide)))
      have F47_o0_startPlaces := Fld.other W47 F45_o0_startPlaces (Or.inr (slot_ne (Or.inr (hw _ (List.mem_of_getElem? (i := 17) rfl))) (Or.inr (hw _ (List.mem_of_getElem? (i := 15) rfl))) (by decide) (t := (.array .int)) (t' := (.array .int)) (by decide) (by decide)))
      have F47_o0_endPlaces := Fld.other W47 F45_o0_endPlaces (Or.inr (slot_ne (Or.inr (hw _ (List.mem_of_getElem? (i := 19) rfl))) (Or.inr (hw _ (List.mem_of_getElem? (i := 15) rfl))) (by decide) (t := (.array .int)) (t' := (.array .int)) (by decide) (by decide)))
      have F47_o0_closePlaces := Fld.other W47 F45_o0_closePlaces (Or.inr (slot_ne (Or.inr (hw _ (List.mem_of_getElem? (i := 21) rfl))) (Or.inr (hw _ (List.mem_of_getElem? (i := 15) rfl))) (by decide) (t := (.array .int)) (t' := (.array .int)) (by decide) (by decide)))
      have F47_o0_byStart := Fld.other W47 F45_o0_byStart (Or.inr (slot_ne (Or.inr (hw _ (List.mem_of_getElem? (i := 23) rfl))) (Or.inr (hw _ (List.mem_of_getElem? (i := 15) rfl))) (by decide) (t := (.array .int)) (t' := (.array .int)) (by decide) (by decide)))
      have F47_o0_byEnd := Fld.other W47 F45_o0_byEnd (Or.inr (slot_ne (Or.inr (hw _ (List.mem_of_getElem? (i := 25) rfl))) (Or.inr (hw _ (List.mem_of_getElem? (i := 15) rfl))) (by decide) (t := (.array .int)) (t' := (.array .int)) (by decide) (by decide)))
      have F47_o0_byLatestEnd := Fld.other W47 F45_o0_byLatestEnd (Or.inr (slot_ne (Or.inr (hw _ (List.mem_of_getElem? (i := 27) rfl))) (Or.inr (hw _ (List.mem_of_getElem? (i := 15) rfl))) (by decide) (t := (.array .int)) (t' := (.array .int)) (by decide) (by decide)))
      have F47_o0_asked := Fld.other W47 F45_o0_asked (Or.inr (slot_ne (Or.inr (hw _ (List.mem_of_getElem? (i := 29) rfl))) (Or.inr (hw _ (List.mem_of_getElem? (i := 15) rfl))) (by decide) (t := (.array .long)) (t' := (.array .int)) (by decide) (by decide)))
      have F47_o0_open := Fld.other W47 F45_o0_open (Or.inr (slot_ne (Or.inr (hw _ (List.mem_of_getElem? (i := 31) rfl))) (Or.inr (hw _ (List.mem_of_getElem? (i := 15) rfl))) (by decide) (t := (.array .long)) (t' := (.array .int)) (by decide) (by decide)))
      have F47_o0_ending := Fld.other W47 F45_o0_ending (Or.inr (slot_ne (Or.inr (hw _ (List.mem_of_getElem? (i := 33) rfl))) (Or.inr (hw _ (List.mem_of_getElem? (i := 15) rfl))) (by decide) (t := (.array .long)) (t' := (.array .int)) (by decide) (by decide)))
      have A47_a2 := OAr.other W47 A45_a2 (Ne.symm ne_o0_a2)
      have A47_a45 := OAr.other W47 A45 (Ne.symm ne_o0_a45)
      have N47 := Fr.snoc X47 N g_o0
      have z47 : n0 ≤ h47.size := Nat.le_trans z45 (Keep.of_wr W47).1
      have K47 := Keep.wr K45 W47 (Or.inl (by simp))
      refine o_aload_n X47 hx (hb hby d1_55) rfl rfl (pc' := 56) rfl ?_
      refine o_iload_n X47 hx (hb hby d1_56) rfl (pc' := 57) rfl ?_
      by_cases hg49 : (¬ (x1 < 0) ∧ x1.toNatClampNeg ≤ 4)
      case neg => rw [if_neg hg49] at hr; cases hr
      rw [if_pos hg49] at hr
      refine o_newarr X47 hx hZ e47 (hw _ (List.mem_of_getElem? (i := 13) rfl)) (hb hby d1_57) (And.left hg49) 4 (And.right hg49) (by decide) (by decide) (by decide) (pc' := 59) rfl ?_
      intro T48 h48 a48 X48 e48 q48 E48 A48
      have g48 : n0 ≤ a48 := Nat.le_trans z47 (Nat.le_of_eq q48.symm)
      have ne_o0_a48 : o0 ≠ a48 := by rw [q48]; exact Nat.ne_of_lt (A47_o0.lt)
      have ne_a2_a48 : a2 ≠ a48 := by rw [q48]; exact Nat.ne_of_lt (A47_a2.lt)
      have ne_a45_a48 : a45 ≠ a48 := by rw [q48]; exact Nat.ne_of_lt (A47_a45.lt)
      have s48 : h0.size ≤ a48 := Nat.le_trans K47.1 (Nat.le_of_eq q48.symm)
      have A48_o0 := Exa.ext E48 A47_o0
      have F48_o0_keys := Fld.ext E48 F47_o0_keys
      have F48_o0_times := Fld.ext E48 F47_o0_times
      have F48_o0_startPlaces := Fld.ext E48 F47_o0_startPlaces
      have F48_o0_endPlaces := Fld.ext E48 F47_o0_endPlaces
      have F48_o0_closePlaces := Fld.ext E48 F47_o0_closePlaces
      have F48_o0_byStart := Fld.ext E48 F47_o0_byStart
      have F48_o0_byEnd := Fld.ext E48 F47_o0_byEnd
      have F48_o0_byLatestEnd := Fld.ext E48 F47_o0_byLatestEnd
      have F48_o0_asked := Fld.ext E48 F47_o0_asked
      have F48_o0_open := Fld.ext E48 F47_o0_open
      have F48_o0_ending := Fld.ext E48 F47_o0_ending
      have A48_a2 := OAr.ext E48 A47_a2
      have A48_a45 := OAr.ext E48 A47_a45
      have z48 : n0 ≤ h48.size := Nat.le_trans z47 E48.1
      have K48 := Keep.ext K47 E48
      replace A48 : OAr Z h48 a48 .int (Int32.toNatClampNeg x1) (ci (fun _ => 0)) := A48
      refine o_putF X48 hx hZ hown e48 (hw _ (List.mem_of_getElem? (i := 16) rfl)) Via.refl F48_o0_startPlaces A48_o0 (Or.inr ⟨(hw _ (List.mem_of_getElem? (i := 17) rfl)), rfl, hnm⟩) (hw _ (List.mem_of_getElem? (i := 2) rfl)) (ty := (.array .int)) (by decide) rfl rfl (hb hby d1_59) (pc' := 62) rfl ?_
      intro T50 h50 X50 e50 W50
      have F50_o0_startPlaces := Fld.same W50 F48_o0_startPlaces
      have A50_o0 := Exa.wr W50 A48_o0
      have F50_o0_keys := Fld.other W50 F48_o0_keys (Or.inr (slot_ne (Or.inr (hw _ (List.mem_of_getElem? (i := 12) rfl))) (Or.inr (hw _ (List.mem_of_getElem? (i := 17) rfl))) (by decide) (t := (.array .long)) (t' := (.array .int)) (by decide) (by decide)))
      have F50_o0_times := Fld.other W50 F48_o0_times (Or.inr (slot_ne (Or.inr (hw _ (List.mem_of_getElem? (i := 15) rfl))) (Or.inr (hw _ (List.mem_of_getElem? (i := 17) rfl))) (by decide) (t := (.array .int)) (t' := (.array .int)) (by decide) (by decide)))
      have F50_o0_endPlaces := Fld.other W50 F48_o0_endPlaces (Or.inr (slot_ne (Or.inr (hw _ (List.mem_of_getElem? (i := 19) rfl))) (Or.inr (hw _ (List.mem_of_getElem? (i := 17) rfl))) (by decide) (t := (.array .int)) (t' := (.array .int)) (by decide) (by decide)))
      have F50_o0_closePlaces := Fld.other W50 F48_o0_closePlaces (Or.inr (slot_ne (Or.inr (hw _ (List.mem_of_getElem? (i := 21) rfl))) (Or.inr (hw _ (List.mem_of_getElem? (i := 17) rfl))) (by decide) (t := (.array .int)) (t' := (.array .int)) (by decide) (by decide)))
      have F50_o0_byStart := Fld.other W50 F48_o0_byStart (Or.inr (slot_ne (Or.inr (hw _ (List.mem_of_getElem? (i := 23) rfl))) (Or.inr (hw _ (List.mem_of_getElem? (i := 17) rfl))) (by decide) (t := (.array .int)) (t' := (.array .int)) (by decide) (by decide)))
      have F50_o0_byEnd := Fld.other W50 F48_o0_byEnd (Or.inr (slot_ne (Or.inr (hw _ (List.mem_of_getElem? (i := 25) rfl))) (Or.inr (hw _ (List.mem_of_getElem? (i := 17) rfl))) (by decide) (t := (.array .int)) (t' := (.array .int)) (by decide) (by decide)))
      have F50_o0_byLatestEnd := Fld.other W50 F48_o0_byLatestEnd (Or.inr (slot_ne (Or.inr (hw _ (List.mem_of_getElem? (i := 27) rfl))) (Or.inr (hw _ (List.mem_of_getElem? (i := 17) rfl))) (by decide) (t := (.array .int)) (t' := (.array .int)) (by decide) (by decide)))
      have F50_o0_asked := Fld.other W50 F48_o0_asked (Or.inr (slot_ne (Or.inr (hw _ (List.mem_of_getElem? (i := 29) rfl))) (Or.inr (hw _ (List.mem_of_getElem? (i := 17) rfl))) (by decide) (t := (.array .long)) (t' := (.array .int)) (by decide) (by decide)))
      have F50_o0_open := Fld.other W50 F48_o0_open (Or.inr (slot_ne (Or.inr (hw _ (List.mem_of_getElem? (i := 31) rfl))) (Or.inr (hw _ (List.mem_of_getElem? (i := 17) rfl))) (by decide) (t := (.array .long)) (t' := (.array .int)) (by decide) (by decide)))
      have F50_o0_ending := Fld.other W50 F48_o0_ending (Or.inr (slot_ne (Or.inr (hw _ (List.mem_of_getElem? (i := 33) rfl))) (Or.inr (hw _ (List.mem_of_getElem? (i := 17) rfl))) (by decide) (t := (.array .long)) (t' := (.array .int)) (by decide) (by decide)))
      have A50_a2 := OAr.other W50 A48_a2 (Ne.symm ne_o0_a2)
      have A50_a45 := OAr.other W50 A48_a45 (Ne.symm ne_o0_a45)
      have A50_a48 := OAr.other W50 A48 (Ne.symm ne_o0_a48)
      have N50 := Fr.snoc X50 N47 g_o0
      have z50 : n0 ≤ h50.size := Nat.le_trans z48 (Keep.of_wr W50).1
      have K50 := Keep.wr K48 W50 (Or.inl (by simp))
      refine o_aload_n X50 hx (hb hby d1_62) rfl rfl (pc' := 63) rfl ?_
      refine o_iload_n X50 hx (hb hby d1_63) rfl (pc' := 64) rfl ?_
      by_cases hg52 : (¬ (x1 < 0) ∧ x1.toNatClampNeg ≤ 4)
      case neg => rw [if_neg hg52] at hr; cases hr
      rw [if_pos hg52] at hr
      refine o_newarr X50 hx hZ e50 (hw _ (List.mem_of_getElem? (i := 13) rfl)) (hb hby d1_64) (And.left hg52) 4 (And.right hg52) (by decide) (by decide) (by decide) (pc' := 66) rfl ?_
      intro T51 h51 a51 X51 e51 q51 E51 A51
      have g51 : n0 ≤ a51 := Nat.le_trans z50 (Nat.le_of_eq q51.symm)
      have ne_o0_a51 : o0 ≠ a51 := by rw [q51]; exact Nat.ne_of_lt (A50_o0.lt)
      have ne_a2_a51 : a2 ≠ a51 := by rw [q51]; exact Nat.ne_of_lt (A50_a2.lt)
      have ne_a45_a51 : a45 ≠ a51 := by rw [q51]; exact Nat.ne_of_lt (A50_a45.lt)
      have ne_a48_a51 : a48 ≠ a51 := by rw [q51]; exact Nat.ne_of_lt (A50_a48.lt)
      have s51 : h0.size ≤ a51 := Nat.le_trans K50.1 (Nat.le_of_eq q51.symm)
      have A51_o0 := Exa.ext E51 A50_o0
      have F51_o0_keys := Fld.ext E51 F50_o0_keys
      have F51_o0_times := Fld.ext E51 F50_o0_times
      have F51_o0_startPlaces := Fld.ext E51 F50_o0_startPlaces
      have F51_o0_endPlaces := Fld.ext E51 F50_o0_endPlaces
      have F51_o0_closePlaces := Fld.ext E51 F50_o0_closePlaces
      have F51_o0_byStart := Fld.ext E51 F50_o0_byStart
      have F51_o0_byEnd := Fld.ext E51 F50_o0_byEnd
      have F51_o0_byLatestEnd := Fld.ext E51 F50_o0_byLatestEnd
      have F51_o0_asked := Fld.ext E51 F50_o0_asked
      have F51_o0_open := Fld.ext E51 F50_o0_open
      have F51_o0_ending := Fld.ext E51 F50_o0_ending
      have A51_a2 := OAr.ext E51 A50_a2
      have A51_a45 := OAr.ext E51 A50_a45
      have A51_a48 := OAr.ext E51 A50_a48
      have z51 : n0 ≤ h51.size := Nat.le_trans z50 E51.1
      have K51 := Keep.ext K50 E51
      replace A51 : OAr Z h51 a51 .int (Int32.toNatClampNeg x1) (ci (fun _ => 0)) := A51
      refine o_putF X51 hx hZ hown e51 (hw _ (List.mem_of_getElem? (i := 18) rfl)) Via.refl F51_o0_endPlaces A51_o0 (Or.inr ⟨(hw _ (List.mem_of_getElem? (i := 19) rfl)), rfl, hnm⟩) (hw _ (List.mem_of_getElem? (i := 2) rfl)) (ty := (.array .int)) (by decide) rfl rfl (hb hby d1_66) (pc' := 69) rfl ?_
      intro T53 h53 X53 e53 W53
      have F53_o0_endPlaces := Fld.same W53 F51_o0_endPlaces
      have A53_o0 := Exa.wr W53 A51_o0
      have F53_o0_keys := Fld.other W53 F51_o0_keys (Or.inr (slot_ne (Or.inr (hw _ (List.mem_of_getElem? (i := 12) rfl))) (Or.inr (hw _ (List.mem_of_getElem? (i := 19) rfl))) (by decide) (t := (.array .long)) (t' := (.array .int)) (by decide) (by decide)))
      have F53_o0_times := Fld.other W53 F51_o0_times (Or.inr (slot_ne (Or.inr (hw _ (List.mem_of_getElem? (i := 15) rfl))) (Or.inr (hw _ (List.mem_of_getElem? (i := 19) rfl))) (by decide) (t := (.array .int)) (t' := (.array .int)) (by decide) (by decide)))
      have F53_o0_startPlaces := Fld.other W53 F51_o0_startPlaces (Or.inr (slot_ne (Or.inr (hw _ (List.mem_of_getElem? (i := 17) rfl))) (Or.inr (hw _ (List.mem_of_getElem? (i := 19) rfl))) (by decide) (t := (.array .int)) (t' := (.array .int)) (by decide) (by decide)))
      have F53_o0_closePlaces := Fld.other W53 F51_o0_closePlaces (Or.inr (slot_ne (Or.inr (hw _ (List.mem_of_getElem? (i := 21) rfl))) (Or.inr (hw _ (List.mem_of_getElem? (i := 19) rfl))) (by decide) (t := (.array .int)) (t' := (.array .int)) (by decide) (by decide)))
      have F53_o0_byStart := Fld.other W53 F51_o0_byStart (Or.inr (slot_ne (Or.inr (hw _ (List.mem_of_getElem? (i := 23) rfl))) (Or.inr (hw _ (List.mem_of_getElem? (i := 19) rfl))) (by decide) (t := (.array .int)) (t' := (.array .int)) (by decide) (by decide)))
      have F53_o0_byEnd := Fld.other W53 F51_o0_byEnd (Or.inr (slot_ne (Or.inr (hw _ (List.mem_of_getElem? (i := 25) rfl))) (Or.inr (hw _ (List.mem_of_getElem? (i := 19) rfl))) (by decide) (t := (.array .int)) (t' := (.array .int)) (by decide) (by decide)))
      have F53_o0_byLatestEnd := Fld.other W53 F51_o0_byLatestEnd (Or.inr (slot_ne (Or.inr (hw _ (List.mem_of_getElem? (i := 27) rfl))) (Or.inr (hw _ (List.mem_of_getElem? (i := 19) rfl))) (by decide) (t := (.array .int)) (t' := (.array .int)) (by decide) (by decide)))
      have F53_o0_asked := Fld.other W53 F51_o0_asked (Or.inr (slot_ne (Or.inr (hw _ (List.mem_of_getElem? (i := 29) rfl))) (Or.inr (hw _ (List.mem_of_getElem? (i := 19) rfl))) (by decide) (t := (.array .long)) (t' := (.array .int)) (by decide) (by decide)))
      have F53_o0_open := Fld.other W53 F51_o0_open (Or.inr (slot_ne (Or.inr (hw _ (List.mem_of_getElem? (i := 31) rfl))) (Or.inr (hw _ (List.mem_of_getElem? (i := 19) rfl))) (by decide) (t := (.array .long)) (t' := (.array .int)) (by decide) (by decide)))
      have F53_o0_ending := Fld.other W53 F51_o0_ending (Or.inr (slot_ne (Or.inr (hw _ (List.mem_of_getElem? (i := 33) rfl))) (Or.inr (hw _ (List.mem_of_getElem? (i := 19) rfl))) (by decide) (t := (.array .long)) (t' := (.array .int)) (by decide) (by decide)))
      have A53_a2 := OAr.other W53 A51_a2 (Ne.symm ne_o0_a2)
      have A53_a45 := OAr.other W53 A51_a45 (Ne.symm ne_o0_a45)
      have A53_a48 := OAr.other W53 A51_a48 (Ne.symm ne_o0_a48)
      have A53_a51 := OAr.other W53 A51 (Ne.symm ne_o0_a51)
      have N53 := Fr.snoc X53 N50 g_o0
      have z53 : n0 ≤ h53.size := Nat.le_trans z51 (Keep.of_wr W53).1
      have K53 := Keep.wr K51 W53 (Or.inl (by simp))
      refine o_aload_n X53 hx (hb hby d1_69) rfl rfl (pc' := 70) rfl ?_
      refine o_iload_n X53 hx (hb hby d1_70) rfl (pc' := 71) rfl ?_
      by_cases hg55 : (¬ (x1 < 0) ∧ x1.toNatClampNeg ≤ 4)
      case neg => rw [if_neg hg55] at hr; cases hr
      rw [if_pos hg55] at hr
      refine o_newarr X53 hx hZ e53 (hw _ (List.mem_of_getElem? (i := 13) rfl)) (hb hby d1_71) (And.left hg55) 4 (And.right hg55) (by decide) (by decide) (by decide) (pc' := 73) rfl ?_
      intro T54 h54 a54 X54 e54 q54 E54 A54
      have g54 : n0 ≤ a54 := Nat.le_trans z53 (Nat.le_of_eq q54.symm)
      have ne_o0_a54 : o0 ≠ a54 := by rw [q54]; exact Nat.ne_of_lt (A53_o0.lt)
      have ne_a2_a54 : a2 ≠ a54 := by rw [q54]; exact Nat.ne_of_lt (A53_a2.lt)
      have ne_a45_a54 : a45 ≠ a54 := by rw [q54]; exact Nat.ne_of_lt (A53_a45.lt)
      have ne_a48_a54 : a48 ≠ a54 := by rw [q54]; exact Nat.ne_of_lt (A53_a48.lt)
      have ne_a51_a54 : a51 ≠ a54 := by rw [q54]; exact Nat.ne_of_lt (A53_a51.lt)
      have s54 : h0.size ≤ a54 := Nat.le_trans K53.1 (Nat.le_of_eq q54.symm)
      have A54_o0 := Exa.ext E54 A53_o0
      have F54_o0_keys := Fld.ext E54 F53_o0_keys
      have F54_o0_times := Fld.ext E54 F53_o0_times
      have F54_o0_startPlaces := Fld.ext E54 F53_o0_startPlaces
      have F54_o0_endPlaces := Fld.ext E54 F53_o0_endPlaces
      have F54_o0_closePlaces := Fld.ext E54 F53_o0_closePlaces
      have F54_o0_byStart := Fld.ext E54 F53_o0_byStart
      have F54_o0_byEnd := Fld.ext E54 F53_o0_byEnd
      have F54_o0_byLatestEnd := Fld.ext E54 F53_o0_byLatestEnd
      have F54_o0_asked := Fld.ext E54 F53_o0_asked
      have F54_o0_open := Fld.ext E54 F53_o0_open
      have F54_o0_ending := Fld.ext E54 F53_o0_ending
      have A54_a2 := OAr.ext E54 A53_a2
      have A54_a45 := OAr.ext E54 A53_a45
      have A54_a48 := OAr.ext E54 A53_a48
      have A54_a51 := OAr.ext E54 A53_a51
      have z54 : n0 ≤ h54.size := Nat.le_trans z53 E54.1
      have K54 := Keep.ext K53 E54
      replace A54 : OAr Z h54 a54 .int (Int32.toNatClampNeg x1) (ci (fun _ => 0)) := A54
      refine o_putF X54 hx hZ hown e54 (hw _ (List.mem_of_getElem? (i := 20) rfl)) Via.refl F54_o0_closePlaces A54_o0 (Or.inr ⟨(hw _ (List.mem_of_getElem? (i := 21) rfl)), rfl, hnm⟩) (hw _ (List.mem_of_getElem? (i := 2) rfl)) (ty := (.array .int)) (by decide) rfl rfl (hb hby d1_73) (pc' := 76) rfl ?_
      intro T56 h56 X56 e56 W56
      have F56_o0_closePlaces := Fld.same W56 F54_o0_closePlaces
      have A56_o0 := Exa.wr W56 A54_o0
      have F56_o0_keys := Fld.other W56 F54_o0_keys (Or.inr (slot_ne (Or.inr (hw _ (List.mem_of_getElem? (i := 12) rfl))) (Or.inr (hw _ (List.mem_of_getElem? (i := 21) rfl))) (by decide) (t := (.array .long)) (t' := (.array .int)) (by decide) (by decide)))
      have F56_o0_times := Fld.other W56 F54_o0_times (Or.inr (slot_ne (Or.inr (hw _ (List.mem_of_getElem? (i := 15) rfl))) (Or.inr (hw _ (List.mem_of_getElem? (i := 21) rfl))) (by decide) (t := (.array .int)) (t' := (.array .int)) (by decide) (by decide)))
      have F56_o0_startPlaces := Fld.other W56 F54_o0_startPlaces (Or.inr (slot_ne (Or.inr (hw _ (List.mem_of_getElem? (i := 17) rfl))) (Or.inr (hw _ (List.mem_of_getElem? (i := 21) rfl))) (by decide) (t := (.array .int)) (t' := (.array .int)) (by decide) (by decide)))
      have F56_o0_endPlaces := Fld.other W56 F54_o0_endPlaces (Or.inr (slot_ne (Or.inr (hw _ (List.mem_of_getElem? (i := 19) rfl))) (Or.inr (hw _ (List.mem_of_getElem? (i := 21) rfl))) (by decide) (t := (.array .int)) (t' := (.array .int)) (by decide) (by decide)))
      have F56_o0_byStart := Fld.other W56 F54_o0_byStart (Or.inr (slot_ne (Or.inr (hw _ (List.mem_of_getElem? (i := 23) rfl))) (Or.inr (hw _ (List.mem_of_getElem? (i := 21) rfl))) (by decide) (t := (.array .int)) (t' := (.array .int)) (by decide) (by decide)))
      have F56_o0_byEnd := Fld.other W56 F54_o0_byEnd (Or.inr (slot_ne (Or.inr (hw _ (List.mem_of_getElem? (i := 25) rfl))) (Or.inr (hw _ (List.mem_of_getElem? (i := 21) rfl))) (by decide) (t := (.array .int)) (t' := (.array .int)) (by decide) (by decide)))
      have F56_o0_byLatestEnd := Fld.other W56 F54_o0_byLatestEnd (Or.inr (slot_ne (Or.inr (hw _ (List.mem_of_getElem? (i := 27) rfl))) (Or.inr (hw _ (List.mem_of_getElem? (i := 21) rfl))) (by decide) (t := (.array .int)) (t' := (.array .int)) (by decide) (by decide)))
      have F56_o0_asked := Fld.other W56 F54_o0_asked (Or.inr (slot_ne (Or.inr (hw _ (List.mem_of_getElem? (i := 29) rfl))) (Or.inr (hw _ (List.mem_of_getElem? (i := 21) rfl))) (by decide) (t := (.array .long)) (t' := (.array .int)) (by decide) (by decide)))
      have F56_o0_open := Fld.other W56 F54_o0_open (Or.inr (slot_ne (Or.inr (hw _ (List.mem_of_getElem? (i := 31) rfl))) (Or.inr (hw _ (List.mem_of_getElem? (i := 21) rfl))) (by decide) (t := (.array .long)) (t' := (.array .int)) (by decide) (by decide)))
      have F56_o0_ending := Fld.other W56 F54_o0_ending (Or.inr (slot_ne (Or.inr (hw _ (List.mem_of_getElem? (i := 33) rfl))) (Or.inr (hw _ (List.mem_of_getElem? (i := 21) rfl))) (by decide) (t := (.array .long)) (t' := (.array .int)) (by decide) (by decide)))
      have A56_a2 := OAr.other W56 A54_a2 (Ne.symm ne_o0_a2)
      have A56_a45 := OAr.other W56 A54_a45 (Ne.symm ne_o0_a45)
      have A56_a48 := OAr.other W56 A54_a48 (Ne.symm ne_o0_a48)
      have A56_a51 := OAr.other W56 A54_a51 (Ne.symm ne_o0_a51)
      have A56_a54 := OAr.other W56 A54 (Ne.symm ne_o0_a54)
      have N56 := Fr.snoc X56 N53 g_o0
      have z56 : n0 ≤ h56.size := Nat.le_trans z54 (Keep.of_wr W56).1
      have K56 := Keep.wr K54 W56 (Or.inl (by simp))
      refine o_aload_n X56 hx (hb hby d1_76) rfl rfl (pc' := 77) rfl ?_
      refine o_iload_n X56 hx (hb hby d1_77) rfl (pc' := 78) rfl ?_
      by_cases hg58 : (¬ (x1 < 0) ∧ x1.toNatClampNeg ≤ 4)
      case neg => rw [if_neg hg58] at hr; cases hr
      rw [if_pos hg58] at hr
      refine o_newarr X56 hx hZ e56 (hw _ (List.mem_of_getElem? (i := 13) rfl)) (hb hby d1_78) (And.left hg58) 4 (And.right hg58) (by decide) (by decide) (by decide) (pc' := 80) rfl ?_
      intro T57 h57 a57 X57 e57 q57 E57 A57
      have g57 : n0 ≤ a57 := Nat.le_trans z56 (Nat.le_of_eq q57.symm)
      have ne_o0_a57 : o0 ≠ a57 := by rw [q57]; exact Nat.ne_of_lt (A56_o0.lt)
      have ne_a2_a57 : a2 ≠ a57 := by rw [q57]; exact Nat.ne_of_lt (A56_a2.lt)
      have ne_a45_a57 : a45 ≠ a57 := by rw [q57]; exact Nat.ne_of_lt (A56_a45.lt)
      have ne_a48_a57 : a48 ≠ a57 := by rw [q57]; exact Nat.ne_of_lt (A56_a48.lt)
      have ne_a51_a57 : a51 ≠ a57 := by rw [q57]; exact Nat.ne_of_lt (A56_a51.lt)
      have ne_a54_a57 : a54 ≠ a57 := by rw [q57]; exact Nat.ne_of_lt (A56_a54.lt)
      have s57 : h0.size ≤ a57 := Nat.le_trans K56.1 (Nat.le_of_eq q57.symm)
      have A57_o0 := Exa.ext E57 A56_o0
      have F57_o0_keys := Fld.ext E57 F56_o0_keys
      have F57_o0_times := Fld.ext E57 F56_o0_times
      have F57_o0_startPlaces := Fld.ext E57 F56_o0_startPlaces
      have F57_o0_endPlaces := Fld.ext E57 F56_o0_endPlaces
      have F57_o0_closePlaces := Fld.ext E57 F56_o0_closePlaces
      have F57_o0_byStart := Fld.ext E57 F56_o0_byStart
      have F57_o0_byEnd := Fld.ext E57 F56_o0_byEnd
      have F57_o0_byLatestEnd := Fld.ext E57 F56_o0_byLatestEnd
      have F57_o0_asked := Fld.ext E57 F56_o0_asked
      have F57_o0_open := Fld.ext E57 F56_o0_open
      have F57_o0_ending := Fld.ext E57 F56_o0_ending
      have A57_a2 := OAr.ext E57 A56_a2
      have A57_a45 := OAr.ext E57 A56_a45
      have A57_a48 := OAr.ext E57 A56_a48
      have A57_a51 := OAr.ext E57 A56_a51
      have A57_a54 := OAr.ext E57 A56_a54
      have z57 : n0 ≤ h57.size := Nat.le_trans z56 E57.1
      have K57 := Keep.ext K56 E57
      replace A57 : OAr Z h57 a57 .int (Int32.toNatClampNeg x1) (ci (fun _ => 0)) := A57
      refine o_putF X57 hx hZ hown e57 (hw _ (List.mem_of_getElem? (i := 22) rfl)) Via.refl F57_o0_byStart A57_o0 (Or.inr ⟨(hw _ (List.mem_of_getElem? (i := 23) rfl)), rfl, hnm⟩) (hw _ (List.mem_of_getElem? (i := 2) rfl)) (ty := (.array .int)) (by decide) rfl rfl (hb hby d1_80) (pc' := 83) rfl ?_
      intro T59 h59 X59 e59 W59
      have F59_o0_byStart := Fld.same W59 F57_o0_byStart
      have A59_o0 := Exa.wr W59 A57_o0
      have F59_o0_keys := Fld.other W59 F57_o0_keys (Or.inr (slot_ne (Or.inr (hw _ (List.mem_of_getElem? (i := 12) rfl))) (Or.inr (hw _ (List.mem_of_getElem? (i := 23) rfl))) (by decide) (t := (.array .long)) (t' := (.array .int)) (by decide) (by decide)))
      have F59_o0_times := Fld.other W59 F57_o0_times (Or.inr (slot_ne (Or.inr (hw _ (List.mem_of_getElem? (i := 15) rfl))) (Or.inr (hw _ (List.mem_of_getElem? (i := 23) rfl))) (by decide) (t := (.array .int)) (t' := (.array .int)) (by decide) (by decide)))
      have F59_o0_startPlaces := Fld.other W59 F57_o0_startPlaces (Or.inr (slot_ne (Or.inr (hw _ (List.mem_of_getElem? (i := 17) rfl))) (Or.inr (hw _ (List.mem_of_getElem? (i := 23) rfl))) (by decide) (t := (.array .int)) (t' := (.array .int)) (by decide) (by decide)))
      have F59_o0_endPlaces := Fld.other W59 F57_o0_endPlaces (Or.inr (slot_ne (Or.inr (hw _ (List.mem_of_getElem? (i := 19) rfl))) (Or.inr (hw _ (List.mem_of_getElem? (i := 23) rfl))) (by decide) (t := (.array .int)) (t' := (.array .int)) (by decide) (by decide)))
      have F59_o0_closePlaces := Fld.other W59 F57_o0_closePlaces (Or.inr (slot_ne (Or.inr (hw _ (List.mem_of_getElem? (i := 21) rfl))) (Or.inr (hw _ (List.mem_of_getElem? (i := 23) rfl))) (by decide) (t := (.array .int)) (t' := (.array .int)) (by decide) (by decide)))
      have F59_o0_byEnd := Fld.other W59 F57_o0_byEnd (Or.inr (slot_ne (Or.inr (hw _ (List.mem_of_getElem? (i := 25) rfl))) (Or.inr (hw _ (List.mem_of_getElem? (i := 23) rfl))) (by decide) (t := (.array .int)) (t' := (.array .int)) (by decide) (by decide)))
      have F59_o0_byLatestEnd := Fld.other W59 F57_o0_byLatestEnd (Or.inr (slot_ne (Or.inr (hw _ (List.mem_of_getElem? (i := 27) rfl))) (Or.inr (hw _ (List.mem_of_getElem? (i := 23) rfl))) (by decide) (t := (.array .int)) (t' := (.array .int)) (by decide) (by decide)))
      have F59_o0_asked := Fld.other W59 F57_o0_asked (Or.inr (slot_ne (Or.inr (hw _ (List.mem_of_getElem? (i := 29) rfl))) (Or.inr (hw _ (List.mem_of_getElem? (i := 23) rfl))) (by decide) (t := (.array .long)) (t' := (.array .int)) (by decide) (by decide)))
      have F59_o0_open := Fld.other W59 F57_o0_open (Or.inr (slot_ne (Or.inr (hw _ (List.mem_of_getElem? (i := 31) rfl))) (Or.inr (hw _ (List.mem_of_getElem? (i := 23) rfl))) (by decide) (t := (.array .long)) (t' := (.array .int)) (by decide) (by decide)))
      have F59_o0_ending := Fld.other W59 F57_o0_ending (Or.inr (slot_ne (Or.inr (hw _ (List.mem_of_getElem? (i := 33) rfl))) (Or.inr (hw _ (List.mem_of_getElem? (i := 23) rfl))) (by decide) (t := (.array .long)) (t' := (.array .int)) (by decide) (by decide)))
      have A59_a2 := OAr.other W59 A57_a2 (Ne.symm ne_o0_a2)
      have A59_a45 := OAr.other W59 A57_a45 (Ne.symm ne_o0_a45)
      have A59_a48 := OAr.other W59 A57_a48 (Ne.symm ne_o0_a48)
      have A59_a51 := OAr.other W59 A57_a51 (Ne.symm ne_o0_a51)
      have A59_a54 := OAr.other W59 A57_a54 (Ne.symm ne_o0_a54)
      have A59_a57 := OAr.other W59 A57 (Ne.symm ne_o0_a57)
      have N59 := Fr.snoc X59 N56 g_o0
      have z59 : n0 ≤ h59.size := Nat.le_trans z57 (Keep.of_wr W59).1
      have K59 := Keep.wr K57 W59 (Or.inl (by simp))
      refine o_aload_n X59 hx (hb hby d1_83) rfl rfl (pc' := 84) rfl ?_
      refine o_iload_n X59 hx (hb hby d1_84) rfl (pc' := 85) rfl ?_
      by_cases hg61 : (¬ (x1 < 0) ∧ x1.toNatClampNeg ≤ 4)
      case neg => rw [if_neg hg61] at hr; cases hr
      rw [if_pos hg61] at hr
      refine o_newarr X59 hx hZ e59 (hw _ (List.mem_of_getElem? (i := 13) rfl)) (hb hby d1_85) (And.left hg61) 4 (And.right hg61) (by decide) (by decide) (by decide) (pc' := 87) rfl ?_
      intro T60 h60 a60 X60 e60 q60 E60 A60
      have g60 : n0 ≤ a60 := Nat.le_trans z59 (Nat.le_of_eq q60.symm)
      have ne_o0_a60 : o0 ≠ a60 := by rw [q60]; exact Nat.ne_of_lt (A59_o0.lt)
      have ne_a2_a60 : a2 ≠ a60 := by rw [q60]; exact Nat.ne_of_lt (A59_a2.lt)
      have ne_a45_a60 : a45 ≠ a60 := by rw [q60]; exact Nat.ne_of_lt (A59_a45.lt)
      have ne_a48_a60 : a48 ≠ a60 := by rw [q60]; exact Nat.ne_of_lt (A59_a48.lt)
      have ne_a51_a60 : a51 ≠ a60 := by rw [q60]; exact Nat.ne_of_lt (A59_a51.lt)
      have ne_a54_a60 : a54 ≠ a60 := by rw [q60]; exact Nat.ne_of_lt (A59_a54.lt)
      have ne_a57_a60 : a57 ≠ a60 := by rw [q60]; exact Nat.ne_of_lt (A59_a57.lt)
      have s60 : h0.size ≤ a60 := Nat.le_trans K59.1 (Nat.le_of_eq q60.symm)
      have A60_o0 := Exa.ext E60 A59_o0
      have F60_o0_keys := Fld.ext E60 F59_o0_keys
      have F60_o0_times := Fld.ext E60 F59_o0_times
      have F60_o0_startPlaces := Fld.ext E60 F59_o0_startPlaces
      have F60_o0_endPlaces := Fld.ext E60 F59_o0_endPlaces
      have F60_o0_closePlaces := Fld.ext E60 F59_o0_closePlaces
      have F60_o0_byStart := Fld.ext E60 F59_o0_byStart
      have F60_o0_byEnd := Fld.ext E60 F59_o0_byEnd
      have F60_o0_byLatestEnd := Fld.ext E60 F59_o0_byLatestEnd
      have F60_o0_asked := Fld.ext E60 F59_o0_asked
      have F60_o0_open := Fld.ext E60 F59_o0_open
      have F60_o0_ending := Fld.ext E60 F59_o0_ending
      have A60_a2 := OAr.ext E60 A59_a2
      have A60_a45 := OAr.ext E60 A59_a45
      have A60_a48 := OAr.ext E60 A59_a48
      have A60_a51 := OAr.ext E60 A59_a51
      have A60_a54 := OAr.ext E60 A59_a54
      have A60_a57 := OAr.ext E60 A59_a57
      have z60 : n0 ≤ h60.size := Nat.le_trans z59 E60.1
      have K60 := Keep.ext K59 E60
      replace A60 : OAr Z h60 a60 .int (Int32.toNatClampNeg x1) (ci (fun _ => 0)) := A60
      refine o_putF X60 hx hZ hown e60 (hw _ (List.mem_of_getElem? (i := 24) rfl)) Via.refl F60_o0_byEnd A60_o0 (Or.inr ⟨(hw _ (List.mem_of_getElem? (i := 25) rfl)), rfl, hnm⟩) (hw _ (List.mem_of_getElem? (i := 2) rfl)) (ty := (.array .int)) (by decide) rfl rfl (hb hby d1_87) (pc' := 90) rfl ?_
      intro T62 h62 X62 e62 W62
      have F62_o0_byEnd := Fld.same W62 F60_o0_byEnd
      have A62_o0 := Exa.wr W62 A60_o0
      have F62_o0_keys := Fld.other W62 F60_o0_keys (Or.inr (slot_ne (Or.inr (hw _ (List.mem_of_getElem? (i := 12) rfl))) (Or.inr (hw _ (List.mem_of_getElem? (i := 25) rfl))) (by decide) (t := (.array .long)) (t' := (.array .int)) (by decide) (by decide)))
      have F62_o0_times := Fld.other W62 F60_o0_times (Or.inr (slot_ne (Or.inr (hw _ (List.mem_of_getElem? (i := 15) rfl))) (Or.inr (hw _ (List.mem_of_getElem? (i := 25) rfl))) (by decide) (t := (.array .int)) (t' := (.array .int)) (by decide) (by decide)))
      have F62_o0_startPlaces := Fld.other W62 F60_o0_startPlaces (Or.inr (slot_ne (Or.inr (hw _ (List.mem_of_getElem? (i := 17) rfl))) (Or.inr (hw _ (List.mem_of_getElem? (i := 25) rfl))) (by decide) (t := (.array .int)) (t' := (.array .int)) (by decide) (by decide)))
      have F62_o0_endPlaces := Fld.other W62 F60_o0_endPlaces (Or.inr (slot_ne (Or.inr (hw _ (List.mem_of_getElem? (i := 19) rfl))) (Or.inr (hw _ (List.mem_of_getElem? (i := 25) rfl))) (by decide) (t := (.array .int)) (t' := (.array .int)) (by decide) (by decide)))
      have F62_o0_closePlaces := Fld.other W62 F60_o0_closePlaces (Or.inr (slot_ne (Or.inr (hw _ (List.mem_of_getElem? (i := 21) rfl))) (Or.inr (hw _ (List.mem_of_getElem? (i := 25) rfl))) (by decide) (t := (.array .int)) (t' := (.array .int)) (by decide) (by decide)))
      have F62_o0_byStart := Fld.other W62 F60_o0_byStart (Or.inr (slot_ne (Or.inr (hw _ (List.mem_of_getElem? (i := 23) rfl))) (Or.inr (hw _ (List.mem_of_getElem? (i := 25) rfl))) (by decide) (t := (.array .int)) (t' := (.array .int)) (by decide) (by decide)))
      have F62_o0_byLatestEnd := Fld.other W62 F60_o0_byLatestEnd (Or.inr (slot_ne (Or.inr (hw _ (List.mem_of_getElem? (i := 27) rfl))) (Or.inr (hw _ (List.mem_of_getElem? (i := 25) rfl))) (by decide) (t := (.array .int)) (t' := (.array .int)) (by decide) (by decide)))
      have F62_o0_asked := Fld.other W62 F60_o0_asked (Or.inr (slot_ne (Or.inr (hw _ (List.mem_of_getElem? (i := 29) rfl))) (Or.inr (hw _ (List.mem_of_getElem? (i := 25) rfl))) (by decide) (t := (.array .long)) (t' := (.array .int)) (by decide) (by decide)))
      have F62_o0_open := Fld.other W62 F60_o0_open (Or.inr (slot_ne (Or.inr (hw _ (List.mem_of_getElem? (i := 31) rfl))) (Or.inr (hw _ (List.mem_of_getElem? (i := 25) rfl))) (by decide) (t := (.array .long)) (t' := (.array .int)) (by decide) (by decide)))
      have F62_o0_ending := Fld.other W62 F60_o0_ending (Or.inr (slot_ne (Or.inr (hw _ (List.mem_of_getElem? (i := 33) rfl))) (Or.inr (hw _ (List.mem_of_getElem? (i := 25) rfl))) (by decide) (t := (.array .long)) (t' := (.array .int)) (by decide) (by decide)))
      have A62_a2 := OAr.other W62 A60_a2 (Ne.symm ne_o0_a2)
      have A62_a45 := OAr.other W62 A60_a45 (Ne.symm ne_o0_a45)
      have A62_a48 := OAr.other W62 A60_a48 (Ne.symm ne_o0_a48)
      have A62_a51 := OAr.other W62 A60_a51 (Ne.symm ne_o0_a51)
      have A62_a54 := OAr.other W62 A60_a54 (Ne.symm ne_o0_a54)
      have A62_a57 := OAr.other W62 A60_a57 (Ne.symm ne_o0_a57)
      have A62_a60 := OAr.other W62 A60 (Ne.symm ne_o0_a60)
      have N62 := Fr.snoc X62 N59 g_o0
      have z62 : n0 ≤ h62.size := Nat.le_trans z60 (Keep.of_wr W62).1
      have K62 := Keep.wr K60 W62 (Or.inl (by simp))
      refine o_aload_n X62 hx (hb hby d1_90) rfl rfl (pc' := 91) rfl ?_
      refine o_iload_n X62 hx (hb hby d1_91) rfl (pc' := 92) rfl ?_
      by_cases hg64 : (¬ (x1 < 0) ∧ x1.toNatClampNeg ≤ 4)
      case neg => rw [if_neg hg64] at hr; cases hr
      rw [if_pos hg64] at hr
      refine o_newarr X62 hx hZ e62 (hw _ (List.mem_of_getElem? (i := 13) rfl)) (hb hby d1_92) (And.left hg64) 4 (And.right hg64) (by decide) (by decide) (by decide) (pc' := 94) rfl ?_
      intro T63 h63 a63 X63 e63 q63 E63 A63
      have g63 : n0 ≤ a63 := Nat.le_trans z62 (Nat.le_of_eq q63.symm)
      have ne_o0_a63 : o0 ≠ a63 := by rw [q63]; exact Nat.ne_of_lt (A62_o0.lt)
      have ne_a2_a63 : a2 ≠ a63 := by rw [q63]; exact Nat.ne_of_lt (A62_a2.lt)
      have ne_a45_a63 : a45 ≠ a63 := by rw [q63]; exact Nat.ne_of_lt (A62_a45.lt)
      have ne_a48_a63 : a48 ≠ a63 := by rw [q63]; exact Nat.ne_of_lt (A62_a48.lt)
      have ne_a51_a63 : a51 ≠ a63 := by rw [q63]; exact Nat.ne_of_lt (A62_a51.lt)
      have ne_a54_a63 : a54 ≠ a63 := by rw [q63]; exact Nat.ne_of_lt (A62_a54.lt)
      have ne_a57_a63 : a57 ≠ a63 := by rw [q63]; exact Nat.ne_of_lt (A62_a57.lt)
      have ne_a60_a63 : a60 ≠ a63 := by rw [q63]; exact Nat.ne_of_lt (A62_a60.lt)
      have s63 : h0.size ≤ a63 := Nat.le_trans K62.1 (Nat.le_of_eq q63.symm)
      have A63_o0 := Exa.ext E63 A62_o0
      have F63_o0_keys := Fld.ext E63 F62_o0_keys
      have F63_o0_times := Fld.ext E63 F62_o0_times
      have F63_o0_startPlaces := Fld.ext E63 F62_o0_startPlaces
      have F63_o0_endPlaces := Fld.ext E63 F62_o0_endPlaces
      have F63_o0_closePlaces := Fld.ext E63 F62_o0_closePlaces
      have F63_o0_byStart := Fld.ext E63 F62_o0_byStart
      have F63_o0_byEnd := Fld.ext E63 F62_o0_byEnd
      have F63_o0_byLatestEnd := Fld.ext E63 F62_o0_byLatestEnd
      have F63_o0_asked := Fld.ext E63 F62_o0_asked
      have F63_o0_open := Fld.ext E63 F62_o0_open
      have F63_o0_ending := Fld.ext E63 F62_o0_ending
      have A63_a2 := OAr.ext E63 A62_a2
      have A63_a45 := OAr.ext E63 A62_a45
      have A63_a48 := OAr.ext E63 A62_a48
      have A63_a51 := OAr.ext E63 A62_a51
      have A63_a54 := OAr.ext E63 A62_a54
      have A63_a57 := OAr.ext E63 A62_a57
      have A63_a60 := OAr.ext E63 A62_a60
      have z63 : n0 ≤ h63.size := Nat.le_trans z62 E63.1
      have K63 := Keep.ext K62 E63
      replace A63 : OAr Z h63 a63 .int (Int32.toNatClampNeg x1) (ci (fun _ => 0)) := A63
      refine o_putF X63 hx hZ hown e63 (hw _ (List.mem_of_getElem? (i := 26) rfl)) Via.refl F63_o0_byLatestEnd A63_o0 (Or.inr ⟨(hw _ (List.mem_of_getElem? (i := 27) rfl)), rfl, hnm⟩) (hw _ (List.mem_of_getElem? (i := 2) rfl)) (ty := (.array .int)) (by decide) rfl rfl (hb hby d1_94) (pc' := 97) rfl ?_
      intro T65 h65 X65 e65 W65
      have F65_o0_byLatestEnd := Fld.same W65 F63_o0_byLatestEnd
      have A65_o0 := Exa.wr W65 A63_o0
      have F65_o0_keys := Fld.other W65 F63_o0_keys (Or.inr (slot_ne (Or.inr (hw _ (List.mem_of_getElem? (i := 12) rfl))) (Or.inr (hw _ (List.mem_of_getElem? (i := 27) rfl))) (by decide) (t := (.array .long)) (t' := (.array .int)) (by decide) (by decide)))
      have F65_o0_times := Fld.other W65 F63_o0_times (Or.inr (slot_ne (Or.inr (hw _ (List.mem_of_getElem? (i := 15) rfl))) (Or.inr (hw _ (List.mem_of_getElem? (i := 27) rfl))) (by decide) (t := (.array .int)) (t' := (.array .int)) (by decide) (by decide)))
      have F65_o0_startPlaces := Fld.other W65 F63_o0_startPlaces (Or.inr (slot_ne (Or.inr (hw _ (List.mem_of_getElem? (i := 17) rfl))) (Or.inr (hw _ (List.mem_of_getElem? (i := 27) rfl))) (by decide) (t := (.array .int)) (t' := (.array .int)) (by decide) (by decide)))
      have F65_o0_endPlaces := Fld.other W65 F63_o0_endPlaces (Or.inr (slot_ne (Or.inr (hw _ (List.mem_of_getElem? (i := 19) rfl))) (Or.inr (hw _ (List.mem_of_getElem? (i := 27) rfl))) (by decide) (t := (.array .int)) (t' := (.array .int)) (by decide) (by decide)))
      have F65_o0_closePlaces := Fld.other W65 F63_o0_closePlaces (Or.inr (slot_ne (Or.inr (hw _ (List.mem_of_getElem? (i := 21) rfl))) (Or.inr (hw _ (List.mem_of_getElem? (i := 27) rfl))) (by decide) (t := (.array .int)) (t' := (.array .int)) (by decide) (by decide)))
      have F65_o0_byStart := Fld.other W65 F63_o0_byStart (Or.inr (slot_ne (Or.inr (hw _ (List.mem_of_getElem? (i := 23) rfl))) (Or.inr (hw _ (List.mem_of_getElem? (i := 27) rfl))) (by decide) (t := (.array .int)) (t' := (.array .int)) (by decide) (by decide)))
      have F65_o0_byEnd := Fld.other W65 F63_o0_byEnd (Or.inr (slot_ne (Or.inr (hw _ (List.mem_of_getElem? (i := 25) rfl))) (Or.inr (hw _ (List.mem_of_getElem? (i := 27) rfl))) (by decide) (t := (.array .int)) (t' := (.array .int)) (by decide) (by decide)))
      have F65_o0_asked := Fld.other W65 F63_o0_asked (Or.inr (slot_ne (Or.inr (hw _ (List.mem_of_getElem? (i := 29) rfl))) (Or.inr (hw _ (List.mem_of_getElem? (i := 27) rfl))) (by decide) (t := (.array .long)) (t' := (.array .int)) (by decide) (by decide)))
      have F65_o0_open := Fld.other W65 F63_o0_open (Or.inr (slot_ne (Or.inr (hw _ (List.mem_of_getElem? (i := 31) rfl))) (Or.inr (hw _ (List.mem_of_getElem? (i := 27) rfl))) (by decide) (t := (.array .long)) (t' := (.array .int)) (by decide) (by decide)))
      have F65_o0_ending := Fld.other W65 F63_o0_ending (Or.inr (slot_ne (Or.inr (hw _ (List.mem_of_getElem? (i := 33) rfl))) (Or.inr (hw _ (List.mem_of_getElem? (i := 27) rfl))) (by decide) (t := (.array .long)) (t' := (.array .int)) (by decide) (by decide)))
      have A65_a2 := OAr.other W65 A63_a2 (Ne.symm ne_o0_a2)
      have A65_a45 := OAr.other W65 A63_a45 (Ne.symm ne_o0_a45)
      have A65_a48 := OAr.other W65 A63_a48 (Ne.symm ne_o0_a48)
      have A65_a51 := OAr.other W65 A63_a51 (Ne.symm ne_o0_a51)
      have A65_a54 := OAr.other W65 A63_a54 (Ne.symm ne_o0_a54)
      have A65_a57 := OAr.other W65 A63_a57 (Ne.symm ne_o0_a57)
      have A65_a60 := OAr.other W65 A63_a60 (Ne.symm ne_o0_a60)
      have A65_a63 := OAr.other W65 A63 (Ne.symm ne_o0_a63)
      have N65 := Fr.snoc X65 N62 g_o0
      have z65 : n0 ≤ h65.size := Nat.le_trans z63 (Keep.of_wr W65).1
      have K65 := Keep.wr K63 W65 (Or.inl (by simp))
      refine o_aload_n X65 hx (hb hby d1_97) rfl rfl (pc' := 98) rfl ?_
      refine o_iconst X65 hx (hb hby d1_98) (3 : Int32) rfl (pc' := 99) rfl ?_
      refine o_iload_n X65 hx (hb hby d1_99) rfl (pc' := 100) rfl ?_
      refine o_imul X65 hx (hb hby d1_100) (pc' := 101) rfl ?_
      by_cases hg67 : (¬ (((3 : Int32) * x1) < 0) ∧ ((3 : Int32) * x1).toNatClampNeg ≤ 12)
      case neg => rw [if_neg hg67] at hr; cases hr
      rw [if_pos hg67] at hr
      refine o_newarr X65 hx hZ e65 (hw _ (List.mem_of_getElem? (i := 10) rfl)) (hb hby d1_101) (And.left hg67) 12 (And.right hg67) (by decide) (by decide) (by decide) (pc' := 103) rfl ?_
      intro T66 h66 a66 X66 e66 q66 E66 A66
      have g66 : n0 ≤ a66 := Nat.le_trans z65 (Nat.le_of_eq q66.symm)
      have ne_o0_a66 : o0 ≠ a66 := by rw [q66]; exact Nat.ne_of_lt (A65_o0.lt)
      have ne_a2_a66 : a2 ≠ a66 := by rw [q66]; exact Nat.ne_of_lt (A65_a2.lt)
      have ne_a45_a66 : a45 ≠ a66 := by rw [q66]; exact Nat.ne_of_lt (A65_a45.lt)
      have ne_a48_a66 : a48 ≠ a66 := by rw [q66]; exact Nat.ne_of_lt (A65_a48.lt)
      have ne_a51_a66 : a51 ≠ a66 := by rw [q66]; exact Nat.ne_of_lt (A65_a51.lt)
      have ne_a54_a66 : a54 ≠ a66 := by rw [q66]; exact Nat.ne_of_lt (A65_a54.lt)
      have ne_a57_a66 : a57 ≠ a66 := by rw [q66]; exact Nat.ne_of_lt (A65_a57.lt)
      have ne_a60_a66 : a60 ≠ a66 := by rw [q66]; exact Nat.ne_of_lt (A65_a60.lt)
      have ne_a63_a66 : a63 ≠ a66 := by rw [q66]; exact Nat.ne_of_lt (A65_a63.lt)
      have s66 : h0.size ≤ a66 := Nat.le_trans K65.1 (Nat.le_of_eq q66.symm)
      have A66_o0 := Exa.ext E66 A65_o0
      have F66_o0_keys := Fld.ext E66 F65_o0_keys
      have F66_o0_times := Fld.ext E66 F65_o0_times
      have F66_o0_startPlaces := Fld.ext E66 F65_o0_startPlaces
      have F66_o0_endPlaces := Fld.ext E66 F65_o0_endPlaces
      have F66_o0_closePlaces := Fld.ext E66 F65_o0_closePlaces
      have F66_o0_byStart := Fld.ext E66 F65_o0_byStart
      have F66_o0_byEnd := Fld.ext E66 F65_o0_byEnd
      have F66_o0_byLatestEnd := Fld.ext E66 F65_o0_byLatestEnd
      have F66_o0_asked := Fld.ext E66 F65_o0_asked
      have F66_o0_open := Fld.ext E66 F65_o0_open
      have F66_o0_ending := Fld.ext E66 F65_o0_ending
      have A66_a2 := OAr.ext E66 A65_a2
      have A66_a45 := OAr.ext E66 A65_a45
      have A66_a48 := OAr.ext E66 A65_a48
      have A66_a51 := OAr.ext E66 A65_a51
      have A66_a54 := OAr.ext E66 A65_a54
      have A66_a57 := OAr.ext E66 A65_a57
      have A66_a60 := OAr.ext E66 A65_a60
      have A66_a63 := OAr.ext E66 A65_a63
      have z66 : n0 ≤ h66.size := Nat.le_trans z65 E66.1
      have K66 := Keep.ext K65 E66
      replace A66 : OAr Z h66 a66 .long (Int32.toNatClampNeg ((3 : Int32) * x1)) (cj (fun _ => 0)) := A66
      refine o_putF X66 hx hZ hown e66 (hw _ (List.mem_of_getElem? (i := 28) rfl)) Via.refl F66_o0_asked A66_o0 (Or.inr ⟨(hw _ (List.mem_of_getElem? (i := 29) rfl)), rfl, hnm⟩) (hw _ (List.mem_of_getElem? (i := 2) rfl)) (ty := (.array .long)) (by decide) rfl rfl (hb hby d1_103) (pc' := 106) rfl ?_
      intro T68 h68 X68 e68 W68
      have F68_o0_asked := Fld.same W68 F66_o0_asked
      have A68_o0 := Exa.wr W68 A66_o0
      have F68_o0_keys := Fld.other W68 F66_o0_keys (Or.inr (slot_ne (Or.inr (hw _ (List.mem_of_getElem? (i := 12) rfl))) (Or.inr (hw _ (List.mem_of_getElem? (i := 29) rfl))) (by decide) (t := (.array .long)) (t' := (.array .long)) (by decide) (by decide)))
      have F68_o0_times := Fld.other W68 F66_o0_times (Or.inr (slot_ne (Or.inr (hw _ (List.mem_of_getElem? (i := 15) rfl))) (Or.inr (hw _ (List.mem_of_getElem? (i := 29) rfl))) (by decide) (t := (.array .int)) (t' := (.array .long)) (by decide) (by decide)))
      have F68_o0_startPlaces := Fld.other W68 F66_o0_startPlaces (Or.inr (slot_ne (Or.inr (hw _ (List.mem_of_getElem? (i := 17) rfl))) (Or.inr (hw _ (List.mem_of_getElem? (i := 29) rfl))) (by decide) (t := (.array .int)) (t' := (.array .long)) (by decide) (by decide)))
      have F68_o0_endPlaces := Fld.other W68 F66_o0_endPlaces (Or.inr (slot_ne (Or.inr (hw _ (List.mem_of_getElem? (i := 19) rfl))) (Or.inr (hw _ (List.mem_of_getElem? (i := 29) rfl))) (by decide) (t := (.array .int)) (t' := (.array .long)) (by decide) (by decide)))
      have F68_o0_closePlaces := Fld.other W68 F66_o0_closePlaces (Or.inr (slot_ne (Or.inr (hw _ (List.mem_of_getElem? (i := 21) rfl))) (Or.inr (hw _ (List.mem_of_getElem? (i := 29) rfl))) (by decide) (t := (.array .int)) (t' := (.array .long)) (by decide) (by decide)))
      have F68_o0_byStart := Fld.other W68 F66_o0_byStart (Or.inr (slot_ne (Or.inr (hw _ (List.mem_of_getElem? (i := 23) rfl))) (Or.inr (hw _ (List.mem_of_getElem? (i := 29) rfl))) (by decide) (t := (.array .int)) (t' := (.array .long)) (by decide) (by decide)))
      have F68_o0_byEnd := Fld.other W68 F66_o0_byEnd (Or.inr (slot_ne (Or.inr (hw _ (List.mem_of_getElem? (i := 25) rfl))) (Or.inr (hw _ (List.mem_of_getElem? (i := 29) rfl))) (by decide) (t := (.array .int)) (t' := (.array .long)) (by decide) (by decide)))
      have F68_o0_byLatestEnd := Fld.other W68 F66_o0_byLatestEnd (Or.inr (slot_ne (Or.inr (hw _ (List.mem_of_getElem? (i := 27) rfl))) (Or.inr (hw _ (List.mem_of_getElem? (i := 29) rfl))) (by decide) (t := (.array .int)) (t' := (.array .long)) (by decide) (by decide)))
      have F68_o0_open := Fld.other W68 F66_o0_open (Or.inr (slot_ne (Or.inr (hw _ (List.mem_of_getElem? (i := 31) rfl))) (Or.inr (hw _ (List.mem_of_getElem? (i := 29) rfl))) (by decide) (t := (.array .long)) (t' := (.array .long)) (by decide) (by decide)))
      have F68_o0_ending := Fld.other W68 F66_o0_ending (Or.inr (slot_ne (Or.inr (hw _ (List.mem_of_getElem? (i := 33) rfl))) (Or.inr (hw _ (List.mem_of_getElem? (i := 29) rfl))) (by decide) (t := (.array .long)) (t' := (.array .long)) (by decide) (by decide)))
      have A68_a2 := OAr.other W68 A66_a2 (Ne.symm ne_o0_a2)
      have A68_a45 := OAr.other W68 A66_a45 (Ne.symm ne_o0_a45)
      have A68_a48 := OAr.other W68 A66_a48 (Ne.symm ne_o0_a48)
      have A68_a51 := OAr.other W68 A66_a51 (Ne.symm ne_o0_a51)
      have A68_a54 := OAr.other W68 A66_a54 (Ne.symm ne_o0_a54)
      have A68_a57 := OAr.other W68 A66_a57 (Ne.symm ne_o0_a57)
      have A68_a60 := OAr.other W68 A66_a60 (Ne.symm ne_o0_a60)
      have A68_a63 := OAr.other W68 A66_a63 (Ne.symm ne_o0_a63)
      have A68_a66 := OAr.other W68 A66 (Ne.symm ne_o0_a66)
      have N68 := Fr.snoc X68 N65 g_o0
      have z68 : n0 ≤ h68.size := Nat.le_trans z66 (Keep.of_wr W68).1
      have K68 := Keep.wr K66 W68 (Or.inl (by simp))
      refine o_aload_n X68 hx (hb hby d1_106) rfl rfl (pc' := 107) rfl ?_
      refine o_iconst X68 hx (hb hby d1_107) (3 : Int32) rfl (pc' := 108) rfl ?_
      refine o_iload_n X68 hx (hb hby d1_108) rfl (pc' := 109) rfl ?_
      refine o_imul X68 hx (hb hby d1_109) (pc' := 110) rfl ?_
      by_cases hg70 : (¬ (((3 : Int32) * x1) < 0) ∧ ((3 : Int32) * x1).toNatClampNeg ≤ 12)
      case neg => rw [if_neg hg70] at hr; cases hr
      rw [if_pos hg70] at hr
      refine o_newarr X68 hx hZ e68 (hw _ (List.mem_of_getElem? (i := 10) rfl)) (hb hby d1_110) (And.left hg70) 12 (And.right hg70) (by decide) (by decide) (by decide) (pc' := 112) rfl ?_
      intro T69 h69 a69 X69 e69 q69 E69 A69
      have g69 : n0 ≤ a69 := Nat.le_trans z68 (Nat.le_of_eq q69.symm)
      have ne_o0_a69 : o0 ≠ a69 := by rw [q69]; exact Nat.ne_of_lt (A68_o0.lt)
      have ne_a2_a69 : a2 ≠ a69 := by rw [q69]; exact Nat.ne_of_lt (A68_a2.lt)
      have ne_a45_a69 : a45 ≠ a69 := by rw [q69]; exact Nat.ne_of_lt (A68_a45.lt)
      have ne_a48_a69 : a48 ≠ a69 := by rw [q69]; exact Nat.ne_of_lt (A68_a48.lt)
      have ne_a51_a69 : a51 ≠ a69 := by rw [q69]; exact Nat.ne_of_lt (A68_a51.lt)
      have ne_a54_a69 : a54 ≠ a69 := by rw [q69]; exact Nat.ne_of_lt (A68_a54.lt)
      have ne_a57_a69 : a57 ≠ a69 := by rw [q69]; exact Nat.ne_of_lt (A68_a57.lt)
      have ne_a60_a69 : a60 ≠ a69 := by rw [q69]; exact Nat.ne_of_lt (A68_a60.lt)
      have ne_a63_a69 : a63 ≠ a69 := by rw [q69]; exact Nat.ne_of_lt (A68_a63.lt)
      have ne_a66_a69 : a66 ≠ a69 := by rw [q69]; exact Nat.ne_of_lt (A68_a66.lt)
      have s69 : h0.size ≤ a69 := Nat.le_trans K68.1 (Nat.le_of_eq q69.symm)
      have A69_o0 := Exa.ext E69 A68_o0
      have F69_o0_keys := Fld.ext E69 F68_o0_keys
      have F69_o0_times := Fld.ext E69 F68_o0_times
      have F69_o0_startPlaces := Fld.ext E69 F68_o0_startPlaces
      have F69_o0_endPlaces := Fld.ext E69 F68_o0_endPlaces
      have F69_o0_closePlaces := Fld.ext E69 F68_o0_closePlaces
      have F69_o0_byStart := Fld.ext E69 F68_o0_byStart
      have F69_o0_byEnd := Fld.ext E69 F68_o0_byEnd
      have F69_o0_byLatestEnd := Fld.ext E69 F68_o0_byLatestEnd
      have F69_o0_asked := Fld.ext E69 F68_o0_asked
      have F69_o0_open := Fld.ext E69 F68_o0_open
      have F69_o0_ending := Fld.ext E69 F68_o0_ending
      have A69_a2 := OAr.ext E69 A68_a2
      have A69_a45 := OAr.ext E69 A68_a45
      have A69_a48 := OAr.ext E69 A68_a48
      have A69_a51 := OAr.ext E69 A68_a51
      have A69_a54 := OAr.ext E69 A68_a54
      have A69_a57 := OAr.ext E69 A68_a57
      have A69_a60 := OAr.ext E69 A68_a60
      have A69_a63 := OAr.ext E69 A68_a63
      have A69_a66 := OAr.ext E69 A68_a66
      have z69 : n0 ≤ h69.size := Nat.le_trans z68 E69.1
      have K69 := Keep.ext K68 E69
      replace A69 : OAr Z h69 a69 .long (Int32.toNatClampNeg ((3 : Int32) * x1)) (cj (fun _ => 0)) := A69
      refine o_putF X69 hx hZ hown e69 (hw _ (List.mem_of_getElem? (i := 30) rfl)) Via.refl F69_o0_open A69_o0 (Or.inr ⟨(hw _ (List.mem_of_getElem? (i := 31) rfl)), rfl, hnm⟩) (hw _ (List.mem_of_getElem? (i := 2) rfl)) (ty := (.array .long)) (by decide) rfl rfl (hb hby d1_112) (pc' := 115) rfl ?_
      intro T71 h71 X71 e71 W71
      have F71_o0_open := Fld.same W71 F69_o0_open
      have A71_o0 := Exa.wr W71 A69_o0
      have F71_o0_keys := Fld.other W71 F69_o0_keys (Or.inr (slot_ne (Or.inr (hw _ (List.mem_of_getElem? (i := 12) rfl))) (Or.inr (hw _ (List.mem_of_getElem? (i := 31) rfl))) (by decide) (t := (.array .long)) (t' := (.array .long)) (by decide) (by decide)))
      have F71_o0_times := Fld.other W71 F69_o0_times (Or.inr (slot_ne (Or.inr (hw _ (List.mem_of_getElem? (i := 15) rfl))) (Or.inr (hw _ (List.mem_of_getElem? (i := 31) rfl))) (by decide) (t := (.array .int)) (t' := (.array .long)) (by decide) (by decide)))
      have F71_o0_startPlaces := Fld.other W71 F69_o0_startPlaces (Or.inr (slot_ne (Or.inr (hw _ (List.mem_of_getElem? (i := 17) rfl))) (Or.inr (hw _ (List.mem_of_getElem? (i := 31) rfl))) (by decide) (t := (.array .int)) (t' := (.array .long)) (by decide) (by decide)))
      have F71_o0_endPlaces := Fld.other W71 F69_o0_endPlaces (Or.inr (slot_ne (Or.inr (hw _ (List.mem_of_getElem? (i := 19) rfl))) (Or.inr (hw _ (List.mem_of_getElem? (i := 31) rfl))) (by decide) (t := (.array .int)) (t' := (.array .long)) (by decide) (by decide)))
      have F71_o0_closePlaces := Fld.other W71 F69_o0_closePlaces (Or.inr (slot_ne (Or.inr (hw _ (List.mem_of_getElem? (i := 21) rfl))) (Or.inr (hw _ (List.mem_of_getElem? (i := 31) rfl))) (by decide) (t := (.array .int)) (t' := (.array .long)) (by decide) (by decide)))
      have F71_o0_byStart := Fld.other W71 F69_o0_byStart (Or.inr (slot_ne (Or.inr (hw _ (List.mem_of_getElem? (i := 23) rfl))) (Or.inr (hw _ (List.mem_of_getElem? (i := 31) rfl))) (by decide) (t := (.array .int)) (t' := (.array .long)) (by decide) (by decide)))
      have F71_o0_byEnd := Fld.other W71 F69_o0_byEnd (Or.inr (slot_ne (Or.inr (hw _ (List.mem_of_getElem? (i := 25) rfl))) (Or.inr (hw _ (List.mem_of_getElem? (i := 31) rfl))) (by decide) (t := (.array .int)) (t' := (.array .long)) (by decide) (by decide)))
      have F71_o0_byLatestEnd := Fld.other W71 F69_o0_byLatestEnd (Or.inr (slot_ne (Or.inr (hw _ (List.mem_of_getElem? (i := 27) rfl))) (Or.inr (hw _ (List.mem_of_getElem? (i := 31) rfl))) (by decide) (t := (.array .int)) (t' := (.array .long)) (by decide) (by decide)))
      have F71_o0_asked := Fld.other W71 F69_o0_asked (Or.inr (slot_ne (Or.inr (hw _ (List.mem_of_getElem? (i := 29) rfl))) (Or.inr (hw _ (List.mem_of_getElem? (i := 31) rfl))) (by decide) (t := (.array .long)) (t' := (.array .long)) (by decide) (by decide)))
      have F71_o0_ending := Fld.other W71 F69_o0_ending (Or.inr (slot_ne (Or.inr (hw _ (List.mem_of_getElem? (i := 33) rfl))) (Or.inr (hw _ (List.mem_of_getElem? (i := 31) rfl))) (by decide) (t := (.array .long)) (t' := (.array .long)) (by decide) (by decide)))
      have A71_a2 := OAr.other W71 A69_a2 (Ne.symm ne_o0_a2)
      have A71_a45 := OAr.other W71 A69_a45 (Ne.symm ne_o0_a45)
      have A71_a48 := OAr.other W71 A69_a48 (Ne.symm ne_o0_a48)
      have A71_a51 := OAr.other W71 A69_a51 (Ne.symm ne_o0_a51)
      have A71_a54 := OAr.other W71 A69_a54 (Ne.symm ne_o0_a54)
      have A71_a57 := OAr.other W71 A69_a57 (Ne.symm ne_o0_a57)
      have A71_a60 := OAr.other W71 A69_a60 (Ne.symm ne_o0_a60)
      have A71_a63 := OAr.other W71 A69_a63 (Ne.symm ne_o0_a63)
      have A71_a66 := OAr.other W71 A69_a66 (Ne.symm ne_o0_a66)
      have A71_a69 := OAr.other W71 A69 (Ne.symm ne_o0_a69)
      have N71 := Fr.snoc X71 N68 g_o0
      have z71 : n0 ≤ h71.size := Nat.le_trans z69 (Keep.of_wr W71).1
      have K71 := Keep.wr K69 W71 (Or.inl (by simp))
      refine o_aload_n X71 hx (hb hby d1_115) rfl rfl (pc' := 116) rfl ?_
      refine o_iconst X71 hx (hb hby d1_116) (3 : Int32) rfl (pc' := 117) rfl ?_
      refine o_iload_n X71 hx (hb hby d1_117) rfl (pc' := 118) rfl ?_
      refine o_imul X71 hx (hb hby d1_118) (pc' := 119) rfl ?_
      by_cases hg73 : (¬ (((3 : Int32) * x1) < 0) ∧ ((3 : Int32) * x1).toNatClampNeg ≤ 12)
      case neg => rw [if_neg hg73] at hr; cases hr
      rw [if_pos hg73] at hr
      refine o_newarr X71 hx hZ e71 (hw _ (List.mem_of_getElem? (i := 10) rfl)) (hb hby d1_119) (And.left hg73) 12 (And.right hg73) (by decide) (by decide) (by decide) (pc' := 121) rfl ?_
      intro T72 h72 a72 X72 e72 q72 E72 A72
      have g72 : n0 ≤ a72 := Nat.le_trans z71 (Nat.le_of_eq q72.symm)
      have ne_o0_a72 : o0 ≠ a72 := by rw [q72]; exact Nat.ne_of_lt (A71_o0.lt)
      have ne_a2_a72 : a2 ≠ a72 := by rw [q72]; exact Nat.ne_of_lt (A71_a2.lt)
      have ne_a45_a72 : a45 ≠ a72 := by rw [q72]; exact Nat.ne_of_lt (A71_a45.lt)
      have ne_a48_a72 : a48 ≠ a72 := by rw [q72]; exact Nat.ne_of_lt (A71_a48.lt)
      have ne_a51_a72 : a51 ≠ a72 := by rw [q72]; exact Nat.ne_of_lt (A71_a51.lt)
      have ne_a54_a72 : a54 ≠ a72 := by rw [q72]; exact Nat.ne_of_lt (A71_a54.lt)
      have ne_a57_a72 : a57 ≠ a72 := by rw [q72]; exact Nat.ne_of_lt (A71_a57.lt)
      have ne_a60_a72 : a60 ≠ a72 := by rw [q72]; exact Nat.ne_of_lt (A71_a60.lt)
      have ne_a63_a72 : a63 ≠ a72 := by rw [q72]; exact Nat.ne_of_lt (A71_a63.lt)
      have ne_a66_a72 : a66 ≠ a72 := by rw [q72]; exact Nat.ne_of_lt (A71_a66.lt)
      have ne_a69_a72 : a69 ≠ a72 := by rw [q72]; exact Nat.ne_of_lt (A71_a69.lt)
      have s72 : h0.size ≤ a72 := Nat.le_trans K71.1 (Nat.le_of_eq q72.symm)
      have A72_o0 := Exa.ext E72 A71_o0
      have F72_o0_keys := Fld.ext E72 F71_o0_keys
      have F72_o0_times := Fld.ext E72 F71_o0_times
      have F72_o0_startPlaces := Fld.ext E72 F71_o0_startPlaces
      have F72_o0_endPlaces := Fld.ext E72 F71_o0_endPlaces
      have F72_o0_closePlaces := Fld.ext E72 F71_o0_closePlaces
      have F72_o0_byStart := Fld.ext E72 F71_o0_byStart
      have F72_o0_byEnd := Fld.ext E72 F71_o0_byEnd
      have F72_o0_byLatestEnd := Fld.ext E72 F71_o0_byLatestEnd
      have F72_o0_asked := Fld.ext E72 F71_o0_asked
      have F72_o0_open := Fld.ext E72 F71_o0_open
      have F72_o0_ending := Fld.ext E72 F71_o0_ending
      have A72_a2 := OAr.ext E72 A71_a2
      have A72_a45 := OAr.ext E72 A71_a45
      have A72_a48 := OAr.ext E72 A71_a48
      have A72_a51 := OAr.ext E72 A71_a51
      have A72_a54 := OAr.ext E72 A71_a54
      have A72_a57 := OAr.ext E72 A71_a57
      have A72_a60 := OAr.ext E72 A71_a60
      have A72_a63 := OAr.ext E72 A71_a63
      have A72_a66 := OAr.ext E72 A71_a66
      have A72_a69 := OAr.ext E72 A71_a69
      have z72 : n0 ≤ h72.size := Nat.le_trans z71 E72.1
      have K72 := Keep.ext K71 E72
      replace A72 : OAr Z h72 a72 .long (Int32.toNatClampNeg ((3 : Int32) * x1)) (cj (fun _ => 0)) := A72
      refine o_putF X72 hx hZ hown e72 (hw _ (List.mem_of_getElem? (i := 32) rfl)) Via.refl F72_o0_ending A72_o0 (Or.inr ⟨(hw _ (List.mem_of_getElem? (i := 33) rfl)), rfl, hnm⟩) (hw _ (List.mem_of_getElem? (i := 2) rfl)) (ty := (.array .long)) (by decide) rfl rfl (hb hby d1_121) (pc' := 124) rfl ?_
      intro T74 h74 X74 e74 W74
      have F74_o0_ending := Fld.same W74 F72_o0_ending
      have A74_o0 := Exa.wr W74 A72_o0
      have F74_o0_keys := Fld.other W74 F72_o0_keys (Or.inr (slot_ne (Or.inr (hw _ (List.mem_of_getElem? (i := 12) rfl))) (Or.inr (hw _ (List.mem_of_getElem? (i := 33) rfl))) (by decide) (t := (.array .long)) (t' := (.array .long)) (by decide) (by decide)))
      have F74_o0_times := Fld.other W74 F72_o0_times (Or.inr (slot_ne (Or.inr (hw _ (List.mem_of_getElem? (i := 15) rfl))) (Or.inr (hw _ (List.mem_of_getElem? (i := 33) rfl))) (by decide) (t := (.array .int)) (t' := (.array .long)) (by decide) (by decide)))
      have F74_o0_startPlaces := Fld.other W74 F72_o0_startPlaces (Or.inr (slot_ne (Or.inr (hw _ (List.mem_of_getElem? (i := 17) rfl))) (Or.inr (hw _ (List.mem_of_getElem? (i := 33) rfl))) (by decide) (t := (.array .int)) (t' := (.array .long)) (by decide) (by decide)))
      have F74_o0_endPlaces := Fld.other W74 F72_o0_endPlaces (Or.inr (slot_ne (Or.inr (hw _ (List.mem_of_getElem? (i := 19) rfl))) (Or.inr (hw _ (List.mem_of_getElem? (i := 33) rfl))) (by decide) (t := (.array .int)) (t' := (.array .long)) (by decide) (by decide)))
      have F74_o0_closePlaces := Fld.other W74 F72_o0_closePlaces (Or.inr (slot_ne (Or.inr (hw _ (List.mem_of_getElem? (i := 21) rfl))) (Or.inr (hw _ (List.mem_of_getElem? (i := 33) rfl))) (by decide) (t := (.array .int)) (t' := (.array .long)) (by decide) (by decide)))
      have F74_o0_byStart := Fld.other W74 F72_o0_byStart (Or.inr (slot_ne (Or.inr (hw _ (List.mem_of_getElem? (i := 23) rfl))) (Or.inr (hw _ (List.mem_of_getElem? (i := 33) rfl))) (by decide) (t := (.array .int)) (t' := (.array .long)) (by decide) (by decide)))
      have F74_o0_byEnd := Fld.other W74 F72_o0_byEnd (Or.inr (slot_ne (Or.inr (hw _ (List.mem_of_getElem? (i := 25) rfl))) (Or.inr (hw _ (List.mem_of_getElem? (i := 33) rfl))) (by decide) (t := (.array .int)) (t' := (.array .long)) (by decide) (by decide)))
      have F74_o0_byLatestEnd := Fld.other W74 F72_o0_byLatestEnd (Or.inr (slot_ne (Or.inr (hw _ (List.mem_of_getElem? (i := 27) rfl))) (Or.inr (hw _ (List.mem_of_getElem? (i := 33) rfl))) (by decide) (t := (.array .int)) (t' := (.array .long)) (by decide) (by decide)))
      have F74_o0_asked := Fld.other W74 F72_o0_asked (Or.inr (slot_ne (Or.inr (hw _ (List.mem_of_getElem? (i := 29) rfl))) (Or.inr (hw _ (List.mem_of_getElem? (i := 33) rfl))) (by decide) (t := (.array .long)) (t' := (.array .long)) (by decide) (by decide)))
      have F74_o0_open := Fld.other W74 F72_o0_open (Or.inr (slot_ne (Or.inr (hw _ (List.mem_of_getElem? (i := 31) rfl))) (Or.inr (hw _ (List.mem_of_getElem? (i := 33) rfl))) (by decide) (t := (.array .long)) (t' := (.array .long)) (by decide) (by decide)))
      have A74_a2 := OAr.other W74 A72_a2 (Ne.symm ne_o0_a2)
      have A74_a45 := OAr.other W74 A72_a45 (Ne.symm ne_o0_a45)
      have A74_a48 := OAr.other W74 A72_a48 (Ne.symm ne_o0_a48)
      have A74_a51 := OAr.other W74 A72_a51 (Ne.symm ne_o0_a51)
      have A74_a54 := OAr.other W74 A72_a54 (Ne.symm ne_o0_a54)
      have A74_a57 := OAr.other W74 A72_a57 (Ne.symm ne_o0_a57)
      have A74_a60 := OAr.other W74 A72_a60 (Ne.symm ne_o0_a60)
      have A74_a63 := OAr.other W74 A72_a63 (Ne.symm ne_o0_a63)
      have A74_a66 := OAr.other W74 A72_a66 (Ne.symm ne_o0_a66)
      have A74_a69 := OAr.other W74 A72_a69 (Ne.symm ne_o0_a69)
      have A74_a72 := OAr.other W74 A72 (Ne.symm ne_o0_a72)
      have N74 := Fr.snoc X74 N71 g_o0
      have z74 : n0 ≤ h74.size := Nat.le_trans z72 (Keep.of_wr W74).1
      have K74 := Keep.wr K72 W74 (Or.inl (by simp))
      obtain rfl : ((Int32.toNatClampNeg ((3 : Int32) * x1)), (fun _ => 0)) = r := Option.some.inj hr
      exact o_ret X74 hx hlk hret (hb hby d1_124) (by rw [e74]; exact ⟨rfl, N74, K74, A74_o0, ⟨a45, g45, F74_o0_times, A74_a45⟩⟩) (by decide) (by decide)
def f1_0 (x1 : Int32) : Option (Nat × (Nat → Int32)) := (if (¬ (((3 : Int32) * x1) < 0) ∧ ((3 : Int32) * x1).toNatClampNeg ≤ 12) then (f1_15 13 (fun _ => 0) ((3 : Int32) * x1) x1 (0 : Int32)) else none)
set_option maxRecDepth 65536 in
set_option maxHeartbeats 40000000 in
theorem b1_0 {p : Program} {l : Launch} {e : Env} {s : State} {m : MethodId} {args : Array Value} {below : List Frame} {meth : Method} {c : Code} {Z : State} {a0 : Array Value} {h0 : Heap} {n0 : Nat} (hx : p.tables.exec = Jvm.exec) (hZ : Z.Warmed39 s.vm) (hw : ∀ d ∈ tables_1, d.before a0 Z = true) (hby : c.code = prog_36_method_1_code) (hml : c.maxLocals = 3) (hown : s.vm.findClass "com/example/ridgeline/ridgeline/filtering/Places" = some m.cls) (hnm : meth.name = "<init>") (hret : meth.sig.returnType = none) (hlk : meth.locks = false) (o0 : Addr) {T : State} {locs : List Loc} {h : Heap} (u_keys : Value) (u_times : Value) (u_startPlaces : Value) (u_endPlaces : Value) (u_closePlaces : Value) (u_byStart : Value) (u_byEnd : Value) (u_byLatestEnd : Value) (u_asked : Value) (u_open : Value) (u_ending : Value) (x1 : Int32) (r : Nat × (Nat → Int32)) (X : Stand p l e ({ frames := 1, cells := 11, slots := 84, locals := 12 } : Room) s m args below meth c T locs 0 0) (eT : T.heap = h) (N : Fr n0 locs) (hsz : n0 ≤ h.size) (K : Keep h0 h [o0]) (E_o0 : Exa Z h o0 "com/example/ridgeline/ridgeline/filtering/Places") (F_o0_keys : Fld Z h o0 "com/example/ridgeline/ridgeline/filtering/Places" "keys" "[J" u_keys) (F_o0_times : Fld Z h o0 "com/example/ridgeline/ridgeline/filtering/Places" "times" "[I" u_times) (F_o0_startPlaces : Fld Z h o0 "com/example/ridgeline/ridgeline/filtering/Places" "startPlaces" "[I" u_startPlaces) (F_o0_endPlaces : Fld Z h o0 "com/example/ridgeline/ridgeline/filtering/Places" "endPlaces" "[I" u_endPlaces) (F_o0_closePlaces : Fld Z h o0 "com/example/ridgeline/ridgeline/filtering/Places" "closePlaces" "[I" u_closePlaces) (F_o0_byStart : Fld Z h o0 "com/example/ridgeline/ridgeline/filtering/Places" "byStart" "[I" u_byStart) (F_o0_byEnd : Fld Z h o0 "com/example/ridgeline/ridgeline/filtering/Places" "byEnd" "[I" u_byEnd) (F_o0_byLatestEnd : Fld Z h o0 "com/example/ridgeline/ridgeline/filtering/Places" "byLatestEnd" "[I" u_byLatestEnd) (F_o0_asked : Fld Z h o0 "com/example/ridgeline/ridgeline/filtering/Places" "asked" "[J" u_asked) (F_o0_open : Fld Z h o0 "com/example/ridgeline/ridgeline/filtering/Places" "open" "[J" u_open) (F_o0_ending : Fld Z h o0 "com/example/ridgeline/ridgeline/filtering/Places" "ending" "[J" u_ending) (g_o0 : n0 ≤ o0) (hr : f1_0 x1 = some r) :
    OG p e below s (fun v h L => v = none ∧ Fr n0 L ∧ Keep h0 h [o0] ∧ Exa Z h o0 "com/example/ridgeline/ridgeline/filtering/Places" ∧ (∃ b : Addr, n0 ≤ b ∧ Fld Z h o0 "com/example/ridgeline/ridgeline/filtering/Places" "times" "[I" (.ref b) ∧ OAr Z h b .int r.1 (ci r.2))) 11 84 T (mkF m 0 #[.val (.ref o0), .val (.int x1), .unset] []) := by
  have hr : (if (¬ (((3 : Int32) * x1) < 0) ∧ ((3 : Int32) * x1).toNatClampNeg ≤ 12) then (f1_15 13 (fun _ => 0) ((3 : Int32) * x1) x1 (0 : Int32)) else none) = some r := hr
  refine o_aload_n X hx (hb hby d1_0) rfl rfl (pc' := 1) rfl ?_
  refine o_initO X hx hZ 0 hown eT (hw _ (List.mem_of_getElem? (i := 7) rfl)) (hw _ (List.mem_of_getElem? (i := 8) rfl)) (hw _ (List.mem_of_getElem? (i := 9) rfl)) (by rw [hml]; rfl) (hb hby d1_1) (by decide) (Nat.le_refl _) (by decide) (pc' := 4) rfl ?_
  intro T1 X1 e1
  refine o_aload_n X1 hx (hb hby d1_4) rfl rfl (pc' := 5) rfl ?_
  refine o_iconst X1 hx (hb hby d1_5) (3 : Int32) rfl (pc' := 6) rfl ?_
  refine o_iload_n X1 hx (hb hby d1_6) rfl (pc' := 7) rfl ?_
  refine o_imul X1 hx (hb hby d1_7) (pc' := 8) rfl ?_
  by_cases hg3 : (¬ (((3 : Int32) * x1) < 0) ∧ ((3 : Int32) * x1).toNatClampNeg ≤ 12)
  case neg => rw [if_neg hg3] at hr; cases hr
  rw [if_pos hg3] at hr
  refine o_newarr X1 hx hZ e1 (hw _ (List.mem_of_getElem? (i := 10) rfl)) (hb hby d1_8) (And.left hg3) 12 (And.right hg3) (by decide) (by decide) (by decide) (pc' := 10) rfl ?_
  intro T2 h2 a2 X2 e2 q2 E2 A2
  have g2 : n0 ≤ a2 := Nat.le_trans hsz (Nat.le_of_eq q2.symm)
  have ne_o0_a2 : o0 ≠ a2 := by rw [q2]; exact Nat.ne_of_lt (E_o0.lt)
  have s2 : h0.size ≤ a2 := Nat.le_trans K.1 (Nat.le_of_eq q2.symm)
  have A2_o0 := Exa.ext E2 E_o0
  have F2_o0_keys := Fld.ext E2 F_o0_keys
  have F2_o0_times := Fld.ext E2 F_o0_times
  have F2_o0_startPlaces := Fld.ext E2 F_o0_startPlaces
  have F2_o0_endPlaces := Fld.ext E2 F_o0_endPlaces
  have F2_o0_closePlaces := Fld.ext E2 F_o0_closePlaces
  have F2_o0_byStart := Fld.ext E2 F_o0_byStart
  have F2_o0_byEnd := Fld.ext E2 F_o0_byEnd
  have F2_o0_byLatestEnd := Fld.ext E2 F_o0_byLatestEnd
  have F2_o0_asked := Fld.ext E2 F_o0_asked
  have F2_o0_open := Fld.ext E2 F_o0_open
  have F2_o0_ending := Fld.ext E2 F_o0_ending
  have z2 : n0 ≤ h2.size := Nat.le_trans hsz E2.1
  have K2 := Keep.ext K E2
  replace A2 : OAr Z h2 a2 .long (Int32.toNatClampNeg ((3 : Int32) * x1)) (cj (fun _ => 0)) := A2
  refine o_putF X2 hx hZ hown e2 (hw _ (List.mem_of_getElem? (i := 11) rfl)) Via.refl F2_o0_keys A2_o0 (Or.inr ⟨(hw _ (List.mem_of_getElem? (i := 12) rfl)), rfl, hnm⟩) (hw _ (List.mem_of_getElem? (i := 2) rfl)) (ty := (.array .long)) (by decide) rfl rfl (hb hby d1_10) (pc' := 13) rfl ?_
  intro T4 h4 X4 e4 W4
  have F4_o0_keys := Fld.same W4 F2_o0_keys
  have A4_o0 := Exa.wr W4 A2_o0
  have F4_o0_times := Fld.other W4 F2_o0_times (Or.inr (slot_ne (Or.inr (hw _ (List.mem_of_getElem? (i := 15) rfl))) (Or.inr (hw _ (List.mem_of_getElem? (i := 12) rfl))) (by decide) (t := (.array .int)) (t' := (.array .long)) (by decide) (by decide)))
  have F4_o0_startPlaces := Fld.other W4 F2_o0_startPlaces (Or.inr (slot_ne (Or.inr (hw _ (List.mem_of_getElem? (i := 17) rfl))) (Or.inr (hw _ (List.mem_of_getElem? (i := 12) rfl))) (by decide) (t := (.array .int)) (t' := (.array .long)) (by decide) (by decide)))
  have F4_o0_endPlaces := Fld.other W4 F2_o0_endPlaces (Or.inr (slot_ne (Or.inr (hw _ (List.mem_of_getElem? (i := 19) rfl))) (Or.inr (hw _ (List.mem_of_getElem? (i := 12) rfl))) (by decide) (t := (.array .int)) (t' := (.array .long)) (by decide) (by decide)))
  have F4_o0_closePlaces := Fld.other W4 F2_o0_closePlaces (Or.inr (slot_ne (Or.inr (hw _ (List.mem_of_getElem? (i := 21) rfl))) (Or.inr (hw _ (List.mem_of_getElem? (i := 12) rfl))) (by decide) (t := (.array .int)) (t' := (.array .long)) (by decide) (by decide)))
  have F4_o0_byStart := Fld.other W4 F2_o0_byStart (Or.inr (slot_ne (Or.inr (hw _ (List.mem_of_getElem? (i := 23) rfl))) (Or.inr (hw _ (List.mem_of_getElem? (i := 12) rfl))) (by decide) (t := (.array .int)) (t' := (.array .long)) (by decide) (by decide)))
  have F4_o0_byEnd := Fld.other W4 F2_o0_byEnd (Or.inr (slot_ne (Or.inr (hw _ (List.mem_of_getElem? (i := 25) rfl))) (Or.inr (hw _ (List.mem_of_getElem? (i := 12) rfl))) (by decide) (t := (.array .int)) (t' := (.array .long)) (by decide) (by decide)))
  have F4_o0_byLatestEnd := Fld.other W4 F2_o0_byLatestEnd (Or.inr (slot_ne (Or.inr (hw _ (List.mem_of_getElem? (i := 27) rfl))) (Or.inr (hw _ (List.mem_of_getElem? (i := 12) rfl))) (by decide) (t := (.array .int)) (t' := (.array .long)) (by decide) (by decide)))
  have F4_o0_asked := Fld.other W4 F2_o0_asked (Or.inr (slot_ne (Or.inr (hw _ (List.mem_of_getElem? (i := 29) rfl))) (Or.inr (hw _ (List.mem_of_getElem? (i := 12) rfl))) (by decide) (t := (.array .long)) (t' := (.array .long)) (by decide) (by decide)))
  have F4_o0_open := Fld.other W4 F2_o0_open (Or.inr (slot_ne (Or.inr (hw _ (List.mem_of_getElem? (i := 31) rfl))) (Or.inr (hw _ (List.mem_of_getElem? (i := 12) rfl))) (by decide) (t := (.array .long)) (t' := (.array .long)) (by decide) (by decide)))
  have F4_o0_ending := Fld.other W4 F2_o0_ending (Or.inr (slot_ne (Or.inr (hw _ (List.mem_of_getElem? (i := 33) rfl))) (Or.inr (hw _ (List.mem_of_getElem? (i := 12) rfl))) (by decide) (t := (.array .long)) (t' := (.array .long)) (by decide) (by decide)))
  have A4_a2 := OAr.other W4 A2 (Ne.symm ne_o0_a2)
  have N4 := Fr.snoc X4 N g_o0
  have z4 : n0 ≤ h4.size := Nat.le_trans z2 (Keep.of_wr W4).1
  have K4 := Keep.wr K2 W4 (Or.inl (by simp))
  refine o_iconst X4 hx (hb hby d1_13) (0 : Int32) rfl (pc' := 14) rfl ?_
  refine o_istore_n X4 hx (hb hby d1_14) #[.val (.ref o0), .val (.int x1), .val (.int (0 : Int32))] rfl (pc' := 15) rfl ?_
  exact b1_15 hx hZ hw hby hml hown hnm hret hlk o0 13 u_times u_startPlaces u_endPlaces u_closePlaces u_byStart u_byEnd u_byLatestEnd u_asked u_open u_ending a2 (fun _ => 0) ((3 : Int32) * x1) x1 (0 : Int32) r X4 e4 N4 z4 K4 A4_o0 F4_o0_keys F4_o0_times F4_o0_startPlaces F4_o0_endPlaces F4_o0_closePlaces F4_o0_byStart F4_o0_byEnd F4_o0_byLatestEnd F4_o0_asked F4_o0_open F4_o0_ending g_o0 A4_a2 (And.left hg3) g2 s2 ne_o0_a2 hr
theorem pn_1 : plainName "com/example/ridgeline/ridgeline/filtering/Places" = true := by first | (simp [plainName, overriddenIn]; done) | decide +kernel
theorem ef_1 (m : MethodId) (o0 : Addr) (x1 : Int32) : entryFrame m #[(.ref o0), (.int x1)] 3 = (mkF m 0 #[.val (.ref o0), .val (.int x1), .unset] []) := by first | (simp [entryFrame, mkF, argsToLocals, Value.category]; done) | rfl
def Qd1 (Z : State) (h0 : Heap) (n0 : Nat) (o0 : Addr) (x1 : Int32) (u_keys : Value) (u_times : Value) (u_startPlaces : Value) (u_endPlaces : Value) (u_closePlaces : Value) (u_byStart : Value) (u_byEnd : Value) (u_byLatestEnd : Value) (u_asked : Value) (u_open : Value) (u_ending : Value) (r : Nat × (Nat → Int32)) : Option Value → Heap → List Loc → Prop := (fun v h L => v = none ∧ Fr n0 L ∧ Keep h0 h [o0] ∧ Exa Z h o0 "com/example/ridgeline/ridgeline/filtering/Places" ∧ (∃ b : Addr, n0 ≤ b ∧ Fld Z h o0 "com/example/ridgeline/ridgeline/filtering/Places" "times" "[I" (.ref b) ∧ OAr Z h b .int r.1 (ci r.2)))
set_option maxRecDepth 65536 in
set_option maxHeartbeats 40000000 in
theorem rm1 (l : Launch) (Z : State) (a0 : Array Value) (hw : ∀ d ∈ tables_1, d.before a0 Z = true) (ws : List Jvm.Cond) (o0 : Addr) (x1 : Int32) (u_keys : Value) (u_times : Value) (u_startPlaces : Value) (u_endPlaces : Value) (u_closePlaces : Value) (u_byStart : Value) (u_byEnd : Value) (u_byLatestEnd : Value) (u_asked : Value) (u_open : Value) (u_ending : Value) (h0 : Heap) (n0 : Nat) (Z0 : n0 ≤ h0.size) (E_o0 : Exa Z h0 o0 "com/example/ridgeline/ridgeline/filtering/Places") (F_o0_keys : Fld Z h0 o0 "com/example/ridgeline/ridgeline/filtering/Places" "keys" "[J" u_keys) (F_o0_times : Fld Z h0 o0 "com/example/ridgeline/ridgeline/filtering/Places" "times" "[I" u_times) (F_o0_startPlaces : Fld Z h0 o0 "com/example/ridgeline/ridgeline/filtering/Places" "startPlaces" "[I" u_startPlaces) (F_o0_endPlaces : Fld Z h0 o0 "com/example/ridgeline/ridgeline/filtering/Places" "endPlaces" "[I" u_endPlaces) (F_o0_closePlaces : Fld Z h0 o0 "com/example/ridgeline/ridgeline/filtering/Places" "closePlaces" "[I" u_closePlaces) (F_o0_byStart : Fld Z h0 o0 "com/example/ridgeline/ridgeline/filtering/Places" "byStart" "[I" u_byStart) (F_o0_byEnd : Fld Z h0 o0 "com/example/ridgeline/ridgeline/filtering/Places" "byEnd" "[I" u_byEnd) (F_o0_byLatestEnd : Fld Z h0 o0 "com/example/ridgeline/ridgeline/filtering/Places" "byLatestEnd" "[I" u_byLatestEnd) (F_o0_asked : Fld Z h0 o0 "com/example/ridgeline/ridgeline/filtering/Places" "asked" "[J" u_asked) (F_o0_open : Fld Z h0 o0 "com/example/ridgeline/ridgeline/filtering/Places" "open" "[J" u_open) (F_o0_ending : Fld Z h0 o0 "com/example/ridgeline/ridgeline/filtering/Places" "ending" "[J" u_ending) (g_o0 : n0 ≤ o0) (r : Nat × (Nat → Int32)) (hr : f1_0 x1 = some r) :
    MetFree l (⟨"com/example/ridgeline/ridgeline/filtering/Places", "<init>", "(I)V"⟩ : MethodName) (head1 (Jvm.Cond.code (⟨"com/example/ridgeline/ridgeline/filtering/Places", "<init>", "(I)V"⟩ : MethodName) prog_36_method_1_code 3 none :: ws) ({ frames := 1, cells := 11, slots := 84, locals := 12 } : Room)) (fun a U => a = #[(.ref o0), (.int x1)] ∧ Z.Warmed39 U.vm ∧ U.heap = h0) (fun _ _ _ _ _ => True) (fun _ U o U' => ∃ v L, o = .returned v ∧ (Qd1 Z h0 n0 o0 x1 u_keys u_times u_startPlaces u_endPlaces u_closePlaces u_byStart u_byEnd u_byLatestEnd u_asked u_open u_ending r) v U'.heap L ∧ FrameEnd U o U' L ({ frames := 1, cells := 11, slots := 84, locals := 12 } : Room).cells ({ frames := 1, cells := 11, slots := 84, locals := 12 } : Room).slots) := by
  refine MetFree.of_bodySF (plainFor_of_name pn_1) hisR ?_
  intro p e s m args below meth c s₁ Bd hml0 hP hK
  obtain ⟨rfl, hZ, hh⟩ := hP
  have e0 : s₁.heap = h0 := by rw [← hh, Bd.state]; rfl
  exact OG.cast (ef_1 m o0 x1) (b1_0 Bd.exec hZ hw Bd.bytes hml0 (findClass_of_methodNamed Bd.named) (name_of_methodNamed Bd.named Bd.method).1 Bd.returns Bd.notSynchronized o0 u_keys u_times u_startPlaces u_endPlaces u_closePlaces u_byStart u_byEnd u_byLatestEnd u_asked u_open u_ending x1 r (Stand.of_body Bd) e0 (Fr.nil n0) Z0 (Keep.refl h0 [o0]) E_o0 F_o0_keys F_o0_times F_o0_startPlaces F_o0_endPlaces F_o0_closePlaces F_o0_byStart F_o0_byEnd F_o0_byLatestEnd F_o0_asked F_o0_open F_o0_ending g_o0 hr)
theorem d3_0 : decode prog_36_method_7_code 0 = .ok (.aload_n 0, 1) := by decide +kernel
theorem d3_1 : decode prog_36_method_7_code 1 = .ok (.getfield 13, 3) := by decide +kernel
theorem d3_4 : decode prog_36_method_7_code 4 = .ok (.iload_n 2, 1) := by decide +kernel
theorem d3_5 : decode prog_36_method_7_code 5 = .ok (.iaload, 1) := by decide +kernel
theorem d3_6 : decode prog_36_method_7_code 6 = .ok (.i2l, 1) := by decide +kernel
theorem d3_7 : decode prog_36_method_7_code 7 = .ok (.aload_n 0, 1) := by decide +kernel
theorem d3_8 : decode prog_36_method_7_code 8 = .ok (.getfield 13, 3) := by decide +kernel
theorem d3_11 : decode prog_36_method_7_code 11 = .ok (.iload_n 1, 1) := by decide +kernel
theorem d3_12 : decode prog_36_method_7_code 12 = .ok (.iaload, 1) := by decide +kernel
theorem d3_13 : decode prog_36_method_7_code 13 = .ok (.i2l, 1) := by decide +kernel
theorem d3_14 : decode prog_36_method_7_code 14 = .ok (.lsub, 1) := by decide +kernel
theorem d3_15 : decode prog_36_method_7_code 15 = .ok (.lreturn, 1) := by decide +kernel
def f3_0 (c_u_times : (Nat → Int32)) (n_u_times : Nat) (x1 : Int32) (x2 : Int32) : Option (Int64) := (if (¬ (x2 < 0) ∧ Int32.toNatClampNeg x2 < n_u_times) then (if (¬ (x1 < 0) ∧ Int32.toNatClampNeg x1 < n_u_times) then (some (((c_u_times (Int32.toNatClampNeg x2)).toInt64) - ((c_u_times (Int32.toNatClampNeg x1)).toInt64))) else none) else none)
set_option maxRecDepth 65536 in
set_option maxHeartbeats 40000000 in
theorem b3_0 {p : Program} {l : Launch} {e : Env} {s : State} {m : MethodId} {args : Array Value} {below : List Frame} {meth : Method} {c : Code} {Z : State} {a0 : Array Value} {h0 : Heap} {n0 : Nat} (hx : p.tables.exec = Jvm.exec) (hZ : Z.Warmed39 s.vm) (hw : ∀ d ∈ tables_1, d.before a0 Z = true) (hby : c.code = prog_36_method_7_code) (hml : c.maxLocals = 3) (hown : s.vm.findClass "com/example/ridgeline/ridgeline/filtering/Places" = some m.cls) (hnm : meth.name = "between") (hret : meth.sig.returnType = some .long) (hlk : meth.locks = false) (o0 : Addr) (u_times : Addr) {T : State} {locs : List Loc} (c_u_times : Nat → Int32) (n_u_times : Nat) (x1 : Int32) (x2 : Int32) (r : Int64) (X : Stand p l e ({ frames := 0, cells := 0, slots := 0, locals := 0 } : Room) s m args below meth c T locs 0 0) (eT : T.heap = h0) (N : Fr n0 locs) (Z0 : n0 ≤ h0.size) (E_o0 : Exa Z h0 o0 "com/example/ridgeline/ridgeline/filtering/Places") (F_o0_times : Fld Z h0 o0 "com/example/ridgeline/ridgeline/filtering/Places" "times" "[I" (.ref u_times)) (A_u_times : OAr Z h0 u_times .int n_u_times (ci c_u_times)) (hr : f3_0 c_u_times n_u_times x1 x2 = some r) :
    OG p e below s (fun v h L => v = (some (.long r)) ∧ Fr n0 L ∧ h = h0) 0 0 T (mkF m 0 #[.val (.ref o0), .val (.int x1), .val (.int x2)] []) := by
  have hr : (if (¬ (x2 < 0) ∧ Int32.toNatClampNeg x2 < n_u_times) then (if (¬ (x1 < 0) ∧ Int32.toNatClampNeg x1 < n_u_times) then (some (((c_u_times (Int32.toNatClampNeg x2)).toInt64) - ((c_u_times (Int32.toNatClampNeg x1)).toInt64))) else none) else none) = some r := hr
  refine o_aload_n X hx (hb hby d3_0) rfl rfl (pc' := 1) rfl ?_
  refine o_getF X hx hZ hown eT (hw _ (List.mem_of_getElem? (i := 14) rfl)) Via.refl F_o0_times (hb hby d3_1) (pc' := 4) rfl ?_
  intro T1 X1 e1
  refine o_iload_n X1 hx (hb hby d3_4) rfl (pc' := 5) rfl ?_
  by_cases hg2 : (¬ (x2 < 0) ∧ Int32.toNatClampNeg x2 < n_u_times)
  case neg => rw [if_neg hg2] at hr; cases hr
  rw [if_pos hg2] at hr
  refine o_iaload X1 hx hZ e1 A_u_times (hb hby d3_5) (And.left hg2) (And.right hg2) (c_u_times (Int32.toNatClampNeg x2)) rfl (pc' := 6) rfl ?_
  refine o_i2l X1 hx (hb hby d3_6) (pc' := 7) rfl ?_
  refine o_aload_n X1 hx (hb hby d3_7) rfl rfl (pc' := 8) rfl ?_
  refine o_getF X1 hx hZ hown e1 (hw _ (List.mem_of_getElem? (i := 14) rfl)) Via.refl F_o0_times (hb hby d3_8) (pc' := 11) rfl ?_
  intro T3 X3 e3
  refine o_iload_n X3 hx (hb hby d3_11) rfl (pc' := 12) rfl ?_
  by_cases hg4 : (¬ (x1 < 0) ∧ Int32.toNatClampNeg x1 < n_u_times)
  case neg => rw [if_neg hg4] at hr; cases hr
  rw [if_pos hg4] at hr
  refine o_iaload X3 hx hZ e3 A_u_times (hb hby d3_12) (And.left hg4) (And.right hg4) (c_u_times (Int32.toNatClampNeg x1)) rfl (pc' := 13) rfl ?_
  refine o_i2l X3 hx (hb hby d3_13) (pc' := 14) rfl ?_
  refine o_lsub X3 hx (hb hby d3_14) (pc' := 15) rfl ?_
  obtain rfl : (((c_u_times (Int32.toNatClampNeg x2)).toInt64) - ((c_u_times (Int32.toNatClampNeg x1)).toInt64)) = r := Option.some.inj hr
  exact o_retJ X3 hx hlk hret (hb hby d3_15) ⟨rfl, N, e3⟩ (by decide) (by decide)
theorem pn_3 : plainName "com/example/ridgeline/ridgeline/filtering/Places" = true := by first | (simp [plainName, overriddenIn]; done) | decide +kernel
theorem ef_3 (m : MethodId) (o0 : Addr) (x1 : Int32) (x2 : Int32) : entryFrame m #[(.ref o0), (.int x1), (.int x2)] 3 = (mkF m 0 #[.val (.ref o0), .val (.int x1), .val (.int x2)] []) := by first | (simp [entryFrame, mkF, argsToLocals, Value.category]; done) | rfl
def Qd3 (Z : State) (h0 : Heap) (n0 : Nat) (o0 : Addr) (x1 : Int32) (x2 : Int32) (u_times : Addr) (c_u_times : Nat → Int32) (n_u_times : Nat) (r : Int64) : Option Value → Heap → List Loc → Prop := (fun v h L => v = (some (.long r)) ∧ Fr n0 L ∧ h = h0)
set_option maxRecDepth 65536 in
set_option maxHeartbeats 40000000 in
theorem rm3 (l : Launch) (Z : State) (a0 : Array Value) (hw : ∀ d ∈ tables_1, d.before a0 Z = true) (ws : List Jvm.Cond) (o0 : Addr) (x1 : Int32) (x2 : Int32) (u_times : Addr) (c_u_times : Nat → Int32) (n_u_times : Nat) (h0 : Heap) (n0 : Nat) (Z0 : n0 ≤ h0.size) (E_o0 : Exa Z h0 o0 "com/example/ridgeline/ridgeline/filtering/Places") (F_o0_times : Fld Z h0 o0 "com/example/ridgeline/ridgeline/filtering/Places" "times" "[I" (.ref u_times)) (A_u_times : OAr Z h0 u_times .int n_u_times (ci c_u_times)) (r : Int64) (hr : f3_0 c_u_times n_u_times x1 x2 = some r) :
    MetFree l (⟨"com/example/ridgeline/ridgeline/filtering/Places", "between", "(II)J"⟩ : MethodName) (head1 (Jvm.Cond.code (⟨"com/example/ridgeline/ridgeline/filtering/Places", "between", "(II)J"⟩ : MethodName) prog_36_method_7_code 3 (some .long) :: ws) ({ frames := 0, cells := 0, slots := 0, locals := 0 } : Room)) (fun a U => a = #[(.ref o0), (.int x1), (.int x2)] ∧ Z.Warmed39 U.vm ∧ U.heap = h0) (fun _ _ _ _ _ => True) (fun _ U o U' => ∃ v L, o = .returned v ∧ (Qd3 Z h0 n0 o0 x1 x2 u_times c_u_times n_u_times r) v U'.heap L ∧ FrameEnd U o U' L ({ frames := 0, cells := 0, slots := 0, locals := 0 } : Room).cells ({ frames := 0, cells := 0, slots := 0, locals := 0 } : Room).slots) := by
  refine MetFree.of_bodySF (plainFor_of_name pn_3) hisR ?_
  intro p e s m args below meth c s₁ Bd hml0 hP hK
  obtain ⟨rfl, hZ, hh⟩ := hP
  have e0 : s₁.heap = h0 := by rw [← hh, Bd.state]; rfl
  exact OG.cast (ef_3 m o0 x1 x2) (b3_0 Bd.exec hZ hw Bd.bytes hml0 (findClass_of_methodNamed Bd.named) (name_of_methodNamed Bd.named Bd.method).1 Bd.returns Bd.notSynchronized o0 u_times c_u_times n_u_times x1 x2 r (Stand.of_body Bd) e0 (Fr.nil n0) Z0 E_o0 F_o0_times A_u_times hr)
theorem pd_0 : parseMethodDescriptor "(I)V" = some ⟨[.int], none⟩ := by decide +kernel
theorem pd_1 : parseMethodDescriptor "(II)J" = some ⟨[.int, .int], some .long⟩ := by decide +kernel
def f0_20 (x2 : Int32) (x3 : Int32) (x4 : Int32) (x5 : Int32) : Option (Int32) := (if x4 ≠ 0 then (Option.bind (f1_0 x3) (fun v4 => (Option.bind (f3_0 v4.2 v4.1 x5 ((x2 &&& (2147483647 : Int32)) % x4)) (fun v5 => (Option.bind (f3_0 v4.2 v4.1 ((x2 &&& (2147483647 : Int32)) % x4) x5) (fun v6 => (if v5 = (0 : Int64) then (if v6 = (0 : Int64) then (some (1 : Int32)) else (some (0 : Int32))) else (some (0 : Int32))))))))) else none)
set_option maxRecDepth 65536 in
set_option maxHeartbeats 40000000 in
theorem b0_20 {p : Program} {l : Launch} {e : Env} {s : State} {m : MethodId} {args : Array Value} {below : List Frame} {meth : Method} {c : Code} {Z : State} {a0 : Array Value} {n0 : Nat} (hx : p.tables.exec = Jvm.exec) (hZ : Z.Warmed39 s.vm) (hw : ∀ d ∈ tables_1, d.before a0 Z = true) (hby : c.code = code) (hml : c.maxLocals = 12) (hown : s.vm.findClass "com/example/ridgeline/ridgeline/filtering/PlacesBetweenPinLaw" = some m.cls) (hnm : meth.name = "law") (hret : meth.sig.returnType = some .boolean) (hlk : meth.locks = false)  {T : State} {locs : List Loc} {h : Heap} (d0 : Int32) (d1 : Int32) (x2 : Int32) (x3 : Int32) (x4 : Int32) (x5 : Int32) (r : Int32) (X : Stand p l e room_1 s m args below meth c T locs 0 0) (eT : T.heap = h) (N : Fr n0 locs) (hsz : n0 ≤ h.size) (hr : f0_20 x2 x3 x4 x5 = some r) :
    OG p e below s (fun v h L => v = (some (.int r)) ∧ Fr n0 L) 32 256 T (mkF m 20 #[.val (.int d0), .val (.int d1), .val (.int x2), .val (.int x3), .val (.int x4), .val (.int x5), .unset, .unset, .unset, .unset, .unset, .unset] []) := by
  have hr : (if x4 ≠ 0 then (Option.bind (f1_0 x3) (fun v4 => (Option.bind (f3_0 v4.2 v4.1 x5 ((x2 &&& (2147483647 : Int32)) % x4)) (fun v5 => (Option.bind (f3_0 v4.2 v4.1 ((x2 &&& (2147483647 : Int32)) % x4) x5) (fun v6 => (if v5 = (0 : Int64) then (if v6 = (0 : Int64) then (some (1 : Int32)) else (some (0 : Int32))) else (some (0 : Int32))))))))) else none) = some r := hr
  refine o_iload_n X hx (hb hby at_20) rfl (pc' := 21) rfl ?_
  refine o_ldcInt X hx hZ hown (hb hby at_21) (hw _ (List.mem_of_getElem? (i := 0) rfl)) (pc' := 23) rfl ?_
  refine o_iand X hx (hb hby at_23) (pc' := 24) rfl ?_
  refine o_iload X hx (hb hby at_24) rfl (pc' := 26) rfl ?_
  by_cases hg2 : x4 ≠ 0
  case neg => rw [if_neg hg2] at hr; cases hr
  rw [if_pos hg2] at hr
  refine o_irem X hx (hb hby at_26) hg2 (pc' := 27) rfl ?_
  refine o_istore X hx (hb hby at_27) #[.val (.int d0), .val (.int d1), .val (.int x2), .val (.int x3), .val (.int x4), .val (.int x5), .val (.int ((x2 &&& (2147483647 : Int32)) % x4)), .unset, .unset, .unset, .unset, .unset] rfl (pc' := 29) rfl ?_
  refine o_new X hx hZ hown eT (hw _ (List.mem_of_getElem? (i := 1) rfl)) (hw _ (List.mem_of_getElem? (i := 2) rfl)) (hw _ (List.mem_of_getElem? (i := 3) rfl)) (hb hby at_29) (pc' := 32) rfl (by decide) (by decide) ?_
  intro T3 h3 a3 X3 e3 q3 E3 A3 D3
  have g3 : n0 ≤ a3 := Nat.le_trans hsz (Nat.le_of_eq q3.symm)
  have z3 : n0 ≤ h3.size := Nat.le_trans hsz E3.1
  have F3_keys : Fld Z h3 a3 "com/example/ridgeline/ridgeline/filtering/Places" "keys" "[J" .null := D3 (Or.inr (hw _ (List.mem_of_getElem? (i := 12) rfl))) (ty := (.array .long)) (by decide)
  have F3_times : Fld Z h3 a3 "com/example/ridgeline/ridgeline/filtering/Places" "times" "[I" .null := D3 (Or.inr (hw _ (List.mem_of_getElem? (i := 15) rfl))) (ty := (.array .int)) (by decide)
  have F3_startPlaces : Fld Z h3 a3 "com/example/ridgeline/ridgeline/filtering/Places" "startPlaces" "[I" .null := D3 (Or.inr (hw _ (List.mem_of_getElem? (i := 17) rfl))) (ty := (.array .int)) (by decide)
  have F3_endPlaces : Fld Z h3 a3 "com/example/ridgeline/ridgeline/filtering/Places" "endPlaces" "[I" .null := D3 (Or.inr (hw _ (List.mem_of_getElem? (i := 19) rfl))) (ty := (.array .int)) (by decide)
  have F3_closePlaces : Fld Z h3 a3 "com/example/ridgeline/ridgeline/filtering/Places" "closePlaces" "[I" .null := D3 (Or.inr (hw _ (List.mem_of_getElem? (i := 21) rfl))) (ty := (.array .int)) (by decide)
  have F3_byStart : Fld Z h3 a3 "com/example/ridgeline/ridgeline/filtering/Places" "byStart" "[I" .null := D3 (Or.inr (hw _ (List.mem_of_getElem? (i := 23) rfl))) (ty := (.array .int)) (by decide)
  have F3_byEnd : Fld Z h3 a3 "com/example/ridgeline/ridgeline/filtering/Places" "byEnd" "[I" .null := D3 (Or.inr (hw _ (List.mem_of_getElem? (i := 25) rfl))) (ty := (.array .int)) (by decide)
  have F3_byLatestEnd : Fld Z h3 a3 "com/example/ridgeline/ridgeline/filtering/Places" "byLatestEnd" "[I" .null := D3 (Or.inr (hw _ (List.mem_of_getElem? (i := 27) rfl))) (ty := (.array .int)) (by decide)
  have F3_asked : Fld Z h3 a3 "com/example/ridgeline/ridgeline/filtering/Places" "asked" "[J" .null := D3 (Or.inr (hw _ (List.mem_of_getElem? (i := 29) rfl))) (ty := (.array .long)) (by decide)
  have F3_open : Fld Z h3 a3 "com/example/ridgeline/ridgeline/filtering/Places" "open" "[J" .null := D3 (Or.inr (hw _ (List.mem_of_getElem? (i := 31) rfl))) (ty := (.array .long)) (by decide)
  have F3_ending : Fld Z h3 a3 "com/example/ridgeline/ridgeline/filtering/Places" "ending" "[J" .null := D3 (Or.inr (hw _ (List.mem_of_getElem? (i := 33) rfl))) (ty := (.array .long)) (by decide)
  refine o_dup X3 hx (hb hby at_32) rfl (pc' := 33) rfl ?_
  refine o_iload_n X3 hx (hb hby at_33) rfl (pc' := 34) rfl ?_
  rcases hq4 : f1_0 x3 with _ | v4
  · rw [hq4] at hr; cases hr
  rw [hq4] at hr
  dsimp only [Option.bind] at hr
  refine o_special X3 hx hZ (argsL := [(.int x3)]) (rest := [(.ref a3)]) (a := a3) 1 rfl hown e3 (hw _ (List.mem_of_getElem? (i := 4) rfl)) (hw _ (List.mem_of_getElem? (i := 5) rfl)) (hw _ (List.mem_of_getElem? (i := 3) rfl)) (hw _ (List.mem_of_getElem? (i := 6) rfl)) (by decide) (rm1 l Z a0 hw [] a3 x3 .null .null .null .null .null .null .null .null .null .null .null h3 n0 z3 A3 F3_keys F3_times F3_startPlaces F3_endPlaces F3_closePlaces F3_byStart F3_byEnd F3_byLatestEnd F3_asked F3_open F3_ending g3 v4 hq4) (by decide) (by decide) (by rw [hml]; rfl) (lenOf pd_0 rfl) rfl (Nat.le_refl _) (hb hby at_34) (pc' := 37) rfl (by decide) (by decide) ?_
  rintro _ T4 L4 X4 ⟨rfl, N4, K4, B4, ⟨b4_times, G4_times, F4_times, C4_times⟩⟩
  replace X4 : Stand p l e room_1 s m args below meth c T4 (locs ++ L4) 12 96 := X4
  have M4 := Fr.app N N4
  dsimp only [Option.toList, List.cons_append, List.nil_append]
  have A4_a3 := Exa.keep A3 K4
  have z4 : n0 ≤ T4.heap.size := Nat.le_trans z3 K4.1
  refine o_astore X4 hx (hb hby at_37) rfl #[.val (.int d0), .val (.int d1), .val (.int x2), .val (.int x3), .val (.int x4), .val (.int x5), .val (.int ((x2 &&& (2147483647 : Int32)) % x4)), .val (.ref a3), .unset, .unset, .unset, .unset] rfl (pc' := 39) rfl ?_
  refine o_aload X4 hx (hb hby at_39) rfl rfl (pc' := 41) rfl ?_
  refine o_iload X4 hx (hb hby at_41) rfl (pc' := 43) rfl ?_
  refine o_iload X4 hx (hb hby at_43) rfl (pc' := 45) rfl ?_
  rcases hq5 : f3_0 v4.2 v4.1 x5 ((x2 &&& (2147483647 : Int32)) % x4) with _ | v5
  · rw [hq5] at hr; cases hr
  rw [hq5] at hr
  dsimp only [Option.bind] at hr
  refine o_virtual X4 hx hZ (argsL := [(.int x5), (.int ((x2 &&& (2147483647 : Int32)) % x4))]) (rest := []) (a := a3) 0 hown (rfl : T4.heap = T4.heap) (hw _ (List.mem_of_getElem? (i := 34) rfl)) (hw _ (List.mem_of_getElem? (i := 35) rfl)) (hw _ (List.mem_of_getElem? (i := 37) rfl)) (hw _ (List.mem_of_getElem? (i := 36) rfl)) (hw _ (List.mem_of_getElem? (i := 3) rfl)) (hw _ (List.mem_of_getElem? (i := 38) rfl)) (by decide) B4 (rm3 l Z a0 hw [] a3 x5 ((x2 &&& (2147483647 : Int32)) % x4) b4_times v4.2 v4.1 T4.heap n0 z4 B4 F4_times C4_times v5 hq5) (by decide) (by decide) (by rw [hml]; rfl) (lenOf pd_1 rfl) rfl (Nat.le_refl _) (hb hby at_45) (pc' := 48) rfl (by decide) (by decide) ?_
  rintro _ T5 L5 X5 ⟨rfl, N5, e5⟩
  replace X5 : Stand p l e room_1 s m args below meth c T5 ((locs ++ L4) ++ L5) 12 96 := X5
  have M5 := Fr.app M4 N5
  dsimp only [Option.toList, List.cons_append, List.nil_append]
  refine o_lstore X5 hx (hb hby at_48) #[.val (.int d0), .val (.int d1), .val (.int x2), .val (.int x3), .val (.int x4), .val (.int x5), .val (.int ((x2 &&& (2147483647 : Int32)) % x4)), .val (.ref a3), .val (.long v5), .second, .unset, .unset] rfl (pc' := 50) rfl ?_
  refine o_aload X5 hx (hb hby at_50) rfl rfl (pc' := 52) rfl ?_
  refine o_iload X5 hx (hb hby at_52) rfl (pc' := 54) rfl ?_
  refine o_iload X5 hx (hb hby at_54) rfl (pc' := 56) rfl ?_
  rcases hq6 : f3_0 v4.2 v4.1 ((x2 &&& (2147483647 : Int32)) % x4) x5 with _ | v6
  · rw [hq6] at hr; cases hr
  rw [hq6] at hr
  dsimp only [Option.bind] at hr
  refine o_virtual X5 hx hZ (argsL := [(.int ((x2 &&& (2147483647 : Int32)) % x4)), (.int x5)]) (rest := []) (a := a3) 0 hown e5 (hw _ (List.mem_of_getElem? (i := 34) rfl)) (hw _ (List.mem_of_getElem? (i := 35) rfl)) (hw _ (List.mem_of_getElem? (i := 37) rfl)) (hw _ (List.mem_of_getElem? (i := 36) rfl)) (hw _ (List.mem_of_getElem? (i := 3) rfl)) (hw _ (List.mem_of_getElem? (i := 38) rfl)) (by decide) B4 (rm3 l Z a0 hw [] a3 ((x2 &&& (2147483647 : Int32)) % x4) x5 b4_times v4.2 v4.1 T4.heap n0 z4 B4 F4_times C4_times v6 hq6) (by decide) (by decide) (by rw [hml]; rfl) (lenOf pd_1 rfl) rfl (Nat.le_refl _) (hb hby at_56) (pc' := 59) rfl (by decide) (by decide) ?_
  rintro _ T6 L6 X6 ⟨rfl, N6, e6⟩
  replace X6 : Stand p l e room_1 s m args below meth c T6 (((locs ++ L4) ++ L5) ++ L6) 12 96 := X6
  have M6 := Fr.app M5 N6
  dsimp only [Option.toList, List.cons_append, List.nil_append]
  refine o_lstore X6 hx (hb hby at_59) #[.val (.int d0), .val (.int d1), .val (.int x2), .val (.int x3), .val (.int x4), .val (.int x5), .val (.int ((x2 &&& (2147483647 : Int32)) % x4)), .val (.ref a3), .val (.long v5), .second, .val (.long v6), .second] rfl (pc' := 61) rfl ?_
  refine o_lload X6 hx (hb hby at_61) rfl (pc' := 63) rfl ?_
  refine o_lconst X6 hx (hb hby at_63) (0 : Int64) rfl (pc' := 64) rfl ?_
  refine o_lcmp X6 hx (hb hby at_64) (pc' := 65) rfl ?_
  by_cases hc7 : v5 = (0 : Int64)
  · rw [if_pos hc7] at hr
    refine o_ifNo X6 hx (hb hby at_65) (l_teq hc7).2 (pc' := 68) rfl ?_
    refine o_lload X6 hx (hb hby at_68) rfl (pc' := 70) rfl ?_
    refine o_lconst X6 hx (hb hby at_70) (0 : Int64) rfl (pc' := 71) rfl ?_
    refine o_lcmp X6 hx (hb hby at_71) (pc' := 72) rfl ?_
    by_cases hc8 : v6 = (0 : Int64)
    · rw [if_pos hc8] at hr
      refine o_ifNo X6 hx (hb hby at_72) (l_teq hc8).2 (pc' := 75) rfl ?_
      refine o_iconst X6 hx (hb hby at_75) (1 : Int32) rfl (pc' := 76) rfl ?_
      refine o_goto X6 hx (hb hby at_76) (pc' := 80) (by decide) (by decide) ?_
      obtain rfl : (1 : Int32) = r := Option.some.inj hr
      exact o_retN X6 hx hlk (t := .boolean) (by simp) hret (hb hby at_80) rfl ⟨rfl, M6⟩ (by decide) (by decide)
    · rw [if_neg hc8] at hr
      refine o_ifYes X6 hx (hb hby at_72) (l_feq hc8).2 (pc' := 79) (by decide) (by decide) ?_
      refine o_iconst X6 hx (hb hby at_79) (0 : Int32) rfl (pc' := 80) rfl ?_
      obtain rfl : (0 : Int32) = r := Option.some.inj hr
      exact o_retN X6 hx hlk (t := .boolean) (by simp) hret (hb hby at_80) rfl ⟨rfl, M6⟩ (by decide) (by decide)
  · rw [if_neg hc7] at hr
    refine o_ifYes X6 hx (hb hby at_65) (l_feq hc7).2 (pc' := 79) (by decide) (by decide) ?_
    refine o_iconst X6 hx (hb hby at_79) (0 : Int32) rfl (pc' := 80) rfl ?_
    obtain rfl : (0 : Int32) = r := Option.some.inj hr
    exact o_retN X6 hx hlk (t := .boolean) (by simp) hret (hb hby at_80) rfl ⟨rfl, M6⟩ (by decide) (by decide)
def f0_0 (x0 : Int32) (x1 : Int32) (x2 : Int32) : Option (Int32) := (if ((3 : Int32) * ((x0 &&& (3 : Int32)) + (1 : Int32))) ≠ 0 then (f0_20 x2 ((x0 &&& (3 : Int32)) + (1 : Int32)) ((3 : Int32) * ((x0 &&& (3 : Int32)) + (1 : Int32))) ((x1 &&& (2147483647 : Int32)) % ((3 : Int32) * ((x0 &&& (3 : Int32)) + (1 : Int32))))) else none)
set_option maxRecDepth 65536 in
set_option maxHeartbeats 40000000 in
theorem b0_0 {p : Program} {l : Launch} {e : Env} {s : State} {m : MethodId} {args : Array Value} {below : List Frame} {meth : Method} {c : Code} {Z : State} {a0 : Array Value} {n0 : Nat} (hx : p.tables.exec = Jvm.exec) (hZ : Z.Warmed39 s.vm) (hw : ∀ d ∈ tables_1, d.before a0 Z = true) (hby : c.code = code) (hml : c.maxLocals = 12) (hown : s.vm.findClass "com/example/ridgeline/ridgeline/filtering/PlacesBetweenPinLaw" = some m.cls) (hnm : meth.name = "law") (hret : meth.sig.returnType = some .boolean) (hlk : meth.locks = false)  {T : State} {locs : List Loc} {h : Heap} (x0 : Int32) (x1 : Int32) (x2 : Int32) (r : Int32) (X : Stand p l e room_1 s m args below meth c T locs 0 0) (eT : T.heap = h) (N : Fr n0 locs) (hsz : n0 ≤ h.size) (hr : f0_0 x0 x1 x2 = some r) :
    OG p e below s (fun v h L => v = (some (.int r)) ∧ Fr n0 L) 32 256 T (mkF m 0 #[.val (.int x0), .val (.int x1), .val (.int x2), .unset, .unset, .unset, .unset, .unset, .unset, .unset, .unset, .unset] []) := by
  have hr : (if ((3 : Int32) * ((x0 &&& (3 : Int32)) + (1 : Int32))) ≠ 0 then (f0_20 x2 ((x0 &&& (3 : Int32)) + (1 : Int32)) ((3 : Int32) * ((x0 &&& (3 : Int32)) + (1 : Int32))) ((x1 &&& (2147483647 : Int32)) % ((3 : Int32) * ((x0 &&& (3 : Int32)) + (1 : Int32))))) else none) = some r := hr
  refine o_iload_n X hx (hb hby at_0) rfl (pc' := 1) rfl ?_
  refine o_iconst X hx (hb hby at_1) (3 : Int32) rfl (pc' := 2) rfl ?_
  refine o_iand X hx (hb hby at_2) (pc' := 3) rfl ?_
  refine o_iconst X hx (hb hby at_3) (1 : Int32) rfl (pc' := 4) rfl ?_
  refine o_iadd X hx (hb hby at_4) (pc' := 5) rfl ?_
  refine o_istore_n X hx (hb hby at_5) #[.val (.int x0), .val (.int x1), .val (.int x2), .val (.int ((x0 &&& (3 : Int32)) + (1 : Int32))), .unset, .unset, .unset, .unset, .unset, .unset, .unset, .unset] rfl (pc' := 6) rfl ?_
  refine o_iconst X hx (hb hby at_6) (3 : Int32) rfl (pc' := 7) rfl ?_
  refine o_iload_n X hx (hb hby at_7) rfl (pc' := 8) rfl ?_
  refine o_imul X hx (hb hby at_8) (pc' := 9) rfl ?_
  refine o_istore X hx (hb hby at_9) #[.val (.int x0), .val (.int x1), .val (.int x2), .val (.int ((x0 &&& (3 : Int32)) + (1 : Int32))), .val (.int ((3 : Int32) * ((x0 &&& (3 : Int32)) + (1 : Int32)))), .unset, .unset, .unset, .unset, .unset, .unset, .unset] rfl (pc' := 11) rfl ?_
  refine o_iload_n X hx (hb hby at_11) rfl (pc' := 12) rfl ?_
  refine o_ldcInt X hx hZ hown (hb hby at_12) (hw _ (List.mem_of_getElem? (i := 0) rfl)) (pc' := 14) rfl ?_
  refine o_iand X hx (hb hby at_14) (pc' := 15) rfl ?_
  refine o_iload X hx (hb hby at_15) rfl (pc' := 17) rfl ?_
  by_cases hg1 : ((3 : Int32) * ((x0 &&& (3 : Int32)) + (1 : Int32))) ≠ 0
  case neg => rw [if_neg hg1] at hr; cases hr
  rw [if_pos hg1] at hr
  refine o_irem X hx (hb hby at_17) hg1 (pc' := 18) rfl ?_
  refine o_istore X hx (hb hby at_18) #[.val (.int x0), .val (.int x1), .val (.int x2), .val (.int ((x0 &&& (3 : Int32)) + (1 : Int32))), .val (.int ((3 : Int32) * ((x0 &&& (3 : Int32)) + (1 : Int32)))), .val (.int ((x1 &&& (2147483647 : Int32)) % ((3 : Int32) * ((x0 &&& (3 : Int32)) + (1 : Int32))))), .unset, .unset, .unset, .unset, .unset, .unset] rfl (pc' := 20) rfl ?_
  exact b0_20 hx hZ hw hby hml hown hnm hret hlk x0 x1 x2 ((x0 &&& (3 : Int32)) + (1 : Int32)) ((3 : Int32) * ((x0 &&& (3 : Int32)) + (1 : Int32))) ((x1 &&& (2147483647 : Int32)) % ((3 : Int32) * ((x0 &&& (3 : Int32)) + (1 : Int32)))) r X eT N hsz hr
theorem own_iand (x m : Int32) (k : Nat) (hm : m.toBitVec.toNat = 2 ^ k - 1) (hk : k < 31) : (x &&& m).toInt = ((x.toBitVec.toNat % 2 ^ k : Nat) : Int) := by
  have e : (x &&& m).toBitVec.toNat = x.toBitVec.toNat % 2 ^ k := by
    rw [Int32.toBitVec_and, BitVec.toNat_and, hm, Nat.and_two_pow_sub_one_eq_mod]
  have h1 : 2 ^ k ≤ 2 ^ 30 := Nat.pow_le_pow_right (by omega) (by omega)
  have h2 := Nat.mod_lt x.toBitVec.toNat (Nat.pow_pos (n := k) (show 0 < 2 by omega))
  rw [← Int32.toInt_toBitVec, BitVec.toInt_eq_toNat_cond, if_pos (by omega), e]
theorem own_ei (x y : Int32) : x = y ↔ x.toInt = y.toInt := by rw [Int32.toInt_inj]
theorem own_toNat32 {x : Int32} (h : 0 ≤ x.toInt) : x.toInt = x.toBitVec.toNat := by
  rw [← Int32.toInt_toBitVec] at *
  rw [BitVec.toInt_eq_toNat_cond] at *
  have := x.toBitVec.isLt
  split at h <;> rename_i q
  · rw [if_pos q]
  · omega
theorem own_n (x : Int32) : (x &&& 3) + 1 = 1 ∨ (x &&& 3) + 1 = 2 ∨ (x &&& 3) + 1 = 3 ∨ (x &&& 3) + 1 = 4 := by
  have a := own_iand x 3 2 rfl (by omega)
  have e : ((x &&& 3) + 1).toInt = (x &&& 3).toInt + 1 := by rw [Int32.toInt_add, show (1 : Int32).toInt = 1 from rfl, Int.bmod_def]; omega
  simp only [own_ei, e, show (1 : Int32).toInt = 1 from rfl, show (2 : Int32).toInt = 2 from rfl, show (3 : Int32).toInt = 3 from rfl, show (4 : Int32).toInt = 4 from rfl]
  omega
theorem own_nn (x : Int32) : 0 ≤ (x &&& 2147483647).toInt := by
  have : (x &&& (2147483647 : Int32)).toBitVec.msb = false := by
    rw [Int32.toBitVec_and, BitVec.msb_and, show (2147483647 : Int32).toBitVec.msb = false by decide, Bool.and_false]
  rw [← Int32.toInt_toBitVec, BitVec.toInt_eq_msb_cond, this]; simp
theorem own_mod (x m : Int32) (h : 1 ≤ m.toInt) : ¬ ((x &&& 2147483647) % m < 0) ∧ Int32.toNatClampNeg ((x &&& 2147483647) % m) < Int32.toNatClampNeg m := by
  have n := own_nn x
  generalize (x &&& 2147483647) = y at *
  have e : (y % m).toInt = y.toInt % m.toInt := by rw [Int32.toInt_mod, Int.tmod_eq_emod_of_nonneg n]
  have := Int.emod_lt_of_pos y.toInt (show 0 < m.toInt by omega)
  have := Int.emod_nonneg y.toInt (show m.toInt ≠ 0 by omega)
  rw [Int32.lt_iff_toInt_lt, show (0 : Int32).toInt = 0 from rfl]
  show _ ∧ (y % m).toInt.toNat < m.toInt.toNat
  omega
theorem own_law (n x1 x2 : Int32) (h : n = 1 ∨ n = 2 ∨ n = 3 ∨ n = 4) (hf : f1_0 n = some (Int32.toNatClampNeg (3 * n), fun _ => 0)) (h1 : 1 ≤ ((3 : Int32) * n).toInt) : f0_20 x2 n (3 * n) ((x1 &&& 2147483647) % (3 * n)) = some 1 := by
  have a := own_mod x1 _ h1
  have b := own_mod x2 _ h1
  unfold f0_20
  rw [if_pos (by intro q; rw [q] at h1; exact absurd h1 (by decide)), hf]
  dsimp only [Option.bind]
  unfold f3_0
  rw [if_pos b, if_pos a, if_pos a, if_pos b]
  dsimp only [Option.bind]
  rw [if_pos (by decide), if_pos (by decide)]
theorem law_true (x0 x1 x2 : Int32) : f0_0 x0 x1 x2 = some 1 := by
  unfold f0_0
  rcases own_n x0 with h | h | h | h <;> rw [h]
  · rw [if_pos (by decide), own_law 1 x1 x2 (by simp) rfl (by decide)]
  · rw [if_pos (by decide), own_law 2 x1 x2 (by simp) rfl (by decide)]
  · rw [if_pos (by decide), own_law 3 x1 x2 (by simp) rfl (by decide)]
  · rw [if_pos (by decide), own_law 4 x1 x2 (by simp) rfl (by decide)]

theorem pn_0 : plainName "com/example/ridgeline/ridgeline/filtering/PlacesBetweenPinLaw" = true := by first | (simp [plainName, overriddenIn]; done) | decide +kernel
theorem ef_0 (m : MethodId) (x0 : Int32) (x1 : Int32) (x2 : Int32) : entryFrame m #[(.int x0), (.int x1), (.int x2)] maxLocals = (mkF m 0 #[.val (.int x0), .val (.int x1), .val (.int x2), .unset, .unset, .unset, .unset, .unset, .unset, .unset, .unset, .unset] []) := by first | (simp [entryFrame, mkF, argsToLocals, Value.category, maxLocals]; done) | rfl
def Qd0 (Z : State) (h0 : Heap) (n0 : Nat) (x0 : Int32) (x1 : Int32) (x2 : Int32) : Option Value → Heap → List Loc → Prop := (fun v h L => v = (some (.int (1 : Int32))) ∧ Fr n0 L)
set_option maxRecDepth 65536 in
set_option maxHeartbeats 40000000 in
theorem rm0 (l : Launch) (Z : State) (a0 : Array Value) (hw : ∀ d ∈ tables_1, d.before a0 Z = true) (ws : List Jvm.Cond) (x0 : Int32) (x1 : Int32) (x2 : Int32) (h0 : Heap) (n0 : Nat) (Z0 : n0 ≤ h0.size) :
    MetFree l x (head1 (Jvm.Cond.code x code maxLocals ret :: ws) room_1) (fun a U => a = #[(.int x0), (.int x1), (.int x2)] ∧ Z.Warmed39 U.vm ∧ U.heap = h0) (fun _ _ _ _ _ => True) (fun _ U o U' => ∃ v L, o = .returned v ∧ (Qd0 Z h0 n0 x0 x1 x2) v U'.heap L ∧ FrameEnd U o U' L room_1.cells room_1.slots) := by
  refine MetFree.of_bodySF (plainFor_of_name pn_0) hisR ?_
  intro p e s m args below meth c s₁ Bd hml0 hP hK
  obtain ⟨rfl, hZ, hh⟩ := hP
  have e0 : s₁.heap = h0 := by rw [← hh, Bd.state]; rfl
  exact OG.cast (ef_0 m x0 x1 x2) (b0_0 Bd.exec hZ hw Bd.bytes hml0 (findClass_of_methodNamed Bd.named) (name_of_methodNamed Bd.named Bd.method).1 Bd.returns Bd.notSynchronized x0 x1 x2 (1 : Int32) (Stand.of_body Bd) e0 (Fr.nil n0) Z0 (law_true _ _ _))
set_option maxRecDepth 65536 in
set_option maxHeartbeats 40000000 in
theorem comes_1 {Post : Tables → Env → Array Value → State → Outcome → State → Prop} (hpost : ∀ tb e args s v u, (limb_1_1.after args s (.returned v) u = true ∧ limb_1_2.after args s (.returned v) u = true ∧ True) → FrameEnd s (.returned v) u (Jvm.fieldLocs frame_1_writes args s ++ Jvm.arrayLocs frame_1_arrays args s ++ Jvm.staticLocs frame_1_statics s) 32 256 → Post tb e args s (.returned v) u) :
    ArmFor flags0 classFile x code maxLocals ret World_1 tables_1 room_1 Calls_1 rest_1 Pre_1 Post := by
  intro l hfl _ _ p e ha hc hk s m args below hf hA hF happ hP
  obtain ⟨hcalls, hrest, hpre⟩ := hP
  obtain ⟨-, -, -, hnamed, -, -, -, hat⟩ := (Spec.applies_iff hf).mp happ
  obtain ⟨hg, hn⟩ := and_e (Cond.before_iff.mp (show (Jvm.Cond.and given_1 narrow_1).before args s = true from hpre))
  obtain ⟨g0, r0⟩ := and_e hg
  obtain ⟨g1, r1⟩ := and_e r0
  obtain ⟨g2, r2⟩ := and_e r1
  obtain ⟨w0, w1, w2, rfl⟩ : ∃ w0 w1 w2 : Value, args = #[w0, w1, w2] := by
    have hs : args.size = 3 := by simpa [Cond.value, given_1] using g0
    obtain ⟨L⟩ := args
    match L, hs with
    | [w0, w1, w2], _ => exact ⟨w0, w1, w2, rfl⟩
  have hw := fun d (hd : d ∈ tables_1) => atoms_spec (ws := Jvm.Cond.code x code maxLocals ret :: tables_1) hat d (List.mem_cons_of_mem _ hd)
  obtain ⟨i0, ei0⟩ := is_v g1
  obtain rfl : w0 = (.int i0) := Option.some.inj ei0
  obtain ⟨i1, ei1⟩ := is_v g2
  obtain rfl : w1 = (.int i1) := Option.some.inj ei1
  obtain ⟨i2, ei2⟩ := is_v r2
  obtain rfl : w2 = (.int i2) := Option.some.inj ei2
  obtain ⟨n, o, h1, h2, h3, _, L, rfl, ⟨rfl, N⟩, hq⟩ := rm0 l s _ hw tables_1 i0 i1 i2 s.heap s.heap.size (Nat.le_refl _) p e ha hc hk s m _ below hf ((Spec.applies_iff_loose hf).mp happ).1 ⟨rfl, State.Warmed39.refl s, rfl⟩ trivial
  exact ⟨n, _, h1, h2, h3, hpost _ _ _ _ _ _ ⟨Cond.after_iff.mpr rfl, Cond.after_iff.mpr (eq_i res_at (Term.int_eval (1)) rfl), trivial⟩ ⟨hq.1, hq.2.1, (hq.2.2.sift fun y hy => Or.inr (N y hy)).mono (by decide) (by decide)⟩⟩
theorem main_1_1 : Claimed_1_1 := comes_1 fun _ _ _ _ _ _ h hF => ⟨h.1, hF⟩
theorem main_1_2 : Claimed_1_2 := comes_1 fun _ _ _ _ _ _ h hF => ⟨h.2.1, hF⟩
end Jvm.Pilot.@@N@@
namespace Jvm.Pilot.@@N@@
open Jvm Jvm.ClassFile Sem Op Lib Jvm.Free Jvm.Stand Jvm.Pilot.@@N@@.Jvm.D
/-! MADE BY PROGRAM (witnessworld.py) out of the Statement's table words and the real class files: 11 classes; the members and pool entries that the words name. The judged class is class 1, her method 1. -/
namespace start1
open Jvm.ClassFile
def u (s : String) : CpInfo := .utf8 (stringToUtf16 s)
/-- a pool by its gaps: so many unusable entries, then the entry; so many at the end -/
def gap : Nat → List CpInfo → List CpInfo
  | 0, r => r
  | n + 1, r => .unusable :: gap n r
def poolList (es : List (Nat × CpInfo)) (last : Nat) : List CpInfo := es.foldr (fun e r => gap e.1 (e.2 :: r)) (gap last [])
def pool (es : List (Nat × CpInfo)) (last : Nat) : Array CpInfo := ⟨poolList es last⟩
def fileOf (pool : Array CpInfo) (this : Nat) (attrs : Array Attribute := #[]) (ms : Array MethodInfo := #[]) (fl : Nat := 33) (sup : Nat := 0) (ifs : Array Nat := #[]) (fds : Array FieldInfo := #[]) : ClassFile where
  minorVersion := 0
  majorVersion := 65
  constantPool := pool
  accessFlags := fl
  thisClass := this
  superClass := sup
  interfaces := ifs
  fields := fds
  methods := ms
  attributes := attrs
def plain (name : String) (sup : Option ClassId) : Class where
  name := name
  kind := .ordinary
  loader := none
  accessFlags := 33
  super := sup
  interfaces := #[]
  cf := none
  fields := #[]
  methods := #[]
  instanceTypes := #[]
  staticTypes := #[]
  resolved := #[]
  callSites := []
  init := .initialized
  statics := none
  mirror := none

def pool0 : Array CpInfo := pool [(5, u "<init>"), (0, u "()V"), (1, .class_ 10), (1, u "java/lang/Object")] 113

def k0c0 : Code := { maxStack := 0, maxLocals := 1, code := object_method_1_code, exceptionTable := #[], attributes := #[] }
def k0m0 : Method := { name := "<init>", desc := "()V", sig := { parameters := [], returnType := none }, accessFlags := 1, code := some k0c0 }
/-- java/lang/Object -/
def k0 : Class := { plain "java/lang/Object" none with
  accessFlags := 33
  interfaces := #[]
  cf := some (fileOf pool0 8 #[] #[{ accessFlags := 1, nameIndex := 5, descriptorIndex := 6, attributes := #[] }] 33 0 #[] #[])
  fields := #[]
  methods := #[k0m0]
  instanceTypes := #[]
  staticTypes := #[]
  resolved := Array.replicate 124 none
  statics := none }

def pool1 : Array CpInfo := pool [(2, .class_ 4), (1, u "java/lang/Object"), (0, u "<init>"), (0, u "()V"), (0, .integer 2147483647), (0, .class_ 9), (0, u "com/example/ridgeline/ridgeline/filtering/Places"), (0, .methodref 8 11), (0, .nameAndType 5 12), (0, u "(I)V"), (0, .methodref 8 14), (0, .nameAndType 15 16), (0, u "between"), (0, u "(II)J"), (0, .class_ 18), (0, u "com/example/ridgeline/ridgeline/filtering/PlacesBetweenPinLaw"), (2, u "law"), (0, u "(III)Z")] 3

def k1m0 : Method := { name := "<init>", desc := "()V", sig := { parameters := [], returnType := none }, accessFlags := 1, code := none }
def k1c1 : Code := { maxStack := 4, maxLocals := 12, code := code, exceptionTable := #[], attributes := #[] }
def k1m1 : Method := { name := "law", desc := "(III)Z", sig := { parameters := [.int, .int, .int], returnType := some .boolean }, accessFlags := 9, code := some k1c1 }
/-- com/example/ridgeline/ridgeline/filtering/PlacesBetweenPinLaw -/
def k1 : Class := { plain "com/example/ridgeline/ridgeline/filtering/PlacesBetweenPinLaw" (some 0) with
  accessFlags := 49
  interfaces := #[]
  cf := some (fileOf pool1 17 #[] #[{ accessFlags := 1, nameIndex := 5, descriptorIndex := 6, attributes := #[] }, { accessFlags := 9, nameIndex := 21, descriptorIndex := 22, attributes := #[] }] 49 2 #[] #[])
  fields := #[]
  methods := #[k1m0, k1m1]
  instanceTypes := #[]
  staticTypes := #[]
  resolved := Array.replicate 26 none
  statics := none }

def pool2 : Array CpInfo := pool [(1, .methodref 2 3), (0, .class_ 4), (0, .nameAndType 5 6), (0, u "java/lang/Object"), (0, u "<init>"), (0, u "()V"), (0, .fieldref 8 9), (0, .class_ 10), (0, .nameAndType 11 12), (0, u "com/example/ridgeline/ridgeline/filtering/Places"), (0, u "keys"), (0, u "[J"), (0, .fieldref 8 14), (0, .nameAndType 15 16), (0, u "times"), (0, u "[I"), (0, .fieldref 8 18), (0, .nameAndType 19 16), (0, u "startPlaces"), (0, .fieldref 8 21), (0, .nameAndType 22 16), (0, u "endPlaces"), (0, .fieldref 8 24), (0, .nameAndType 25 16), (0, u "closePlaces"), (0, .fieldref 8 27), (0, .nameAndType 28 16), (0, u "byStart"), (0, .fieldref 8 30), (0, .nameAndType 31 16), (0, u "byEnd"), (0, .fieldref 8 33), (0, .nameAndType 34 16), (0, u "byLatestEnd"), (0, .fieldref 8 36), (0, .nameAndType 37 12), (0, u "asked"), (0, .fieldref 8 39), (0, .nameAndType 40 12), (0, u "open"), (0, .fieldref 8 42), (0, .nameAndType 43 12), (0, u "ending"), (8, u "(I)V"), (18, u "count"), (0, u "I"), (12, u "between"), (0, u "(II)J")] 8

def k2c0 : Code := { maxStack := 5, maxLocals := 3, code := prog_36_method_1_code, exceptionTable := #[], attributes := #[] }
def k2m0 : Method := { name := "<init>", desc := "(I)V", sig := { parameters := [.int], returnType := none }, accessFlags := 0, code := some k2c0 }
def k2c1 : Code := { maxStack := 4, maxLocals := 3, code := prog_36_method_7_code, exceptionTable := #[], attributes := #[] }
def k2m1 : Method := { name := "between", desc := "(II)J", sig := { parameters := [.int, .int], returnType := some .long }, accessFlags := 0, code := some k2c1 }
/-- com/example/ridgeline/ridgeline/filtering/Places -/
def k2 : Class := { plain "com/example/ridgeline/ridgeline/filtering/Places" (some 0) with
  accessFlags := 48
  interfaces := #[]
  cf := some (fileOf pool2 8 #[] #[{ accessFlags := 0, nameIndex := 5, descriptorIndex := 52, attributes := #[] }, { accessFlags := 0, nameIndex := 85, descriptorIndex := 86, attributes := #[] }] 48 2 #[] #[{ accessFlags := 18, nameIndex := 11, descriptorIndex := 12, attributes := #[] }, { accessFlags := 18, nameIndex := 15, descriptorIndex := 16, attributes := #[] }, { accessFlags := 2, nameIndex := 71, descriptorIndex := 72, attributes := #[] }, { accessFlags := 16, nameIndex := 19, descriptorIndex := 16, attributes := #[] }, { accessFlags := 16, nameIndex := 22, descriptorIndex := 16, attributes := #[] }, { accessFlags := 16, nameIndex := 25, descriptorIndex := 16, attributes := #[] }, { accessFlags := 16, nameIndex := 28, descriptorIndex := 16, attributes := #[] }, { accessFlags := 16, nameIndex := 31, descriptorIndex := 16, attributes := #[] }, { accessFlags := 16, nameIndex := 34, descriptorIndex := 16, attributes := #[] }, { accessFlags := 16, nameIndex := 37, descriptorIndex := 12, attributes := #[] }, { accessFlags := 16, nameIndex := 40, descriptorIndex := 12, attributes := #[] }, { accessFlags := 16, nameIndex := 43, descriptorIndex := 12, attributes := #[] }])
  fields := #[{ name := "keys", type := (.array .long), accessFlags := 18, slot := 0, constantValue := 0 }, { name := "times", type := (.array .int), accessFlags := 18, slot := 1, constantValue := 0 }, { name := "count", type := .int, accessFlags := 2, slot := 2, constantValue := 0 }, { name := "startPlaces", type := (.array .int), accessFlags := 16, slot := 3, constantValue := 0 }, { name := "endPlaces", type := (.array .int), accessFlags := 16, slot := 4, constantValue := 0 }, { name := "closePlaces", type := (.array .int), accessFlags := 16, slot := 5, constantValue := 0 }, { name := "byStart", type := (.array .int), accessFlags := 16, slot := 6, constantValue := 0 }, { name := "byEnd", type := (.array .int), accessFlags := 16, slot := 7, constantValue := 0 }, { name := "byLatestEnd", type := (.array .int), accessFlags := 16, slot := 8, constantValue := 0 }, { name := "asked", type := (.array .long), accessFlags := 16, slot := 9, constantValue := 0 }, { name := "open", type := (.array .long), accessFlags := 16, slot := 10, constantValue := 0 }, { name := "ending", type := (.array .long), accessFlags := 16, slot := 11, constantValue := 0 }]
  methods := #[k2m0, k2m1]
  instanceTypes := #[(.array .long), (.array .int), .int, (.array .int), (.array .int), (.array .int), (.array .int), (.array .int), (.array .int), (.array .long), (.array .long), (.array .long)]
  staticTypes := #[]
  resolved := Array.replicate 95 none
  statics := none }

def pool3 : Array CpInfo := pool [(1, u "java/lang/Cloneable"), (0, .class_ 1), (0, u "java/lang/Object"), (0, .class_ 3)] 3

/-- java/lang/Cloneable -/
def k3 : Class := { plain "java/lang/Cloneable" (some 0) with
  accessFlags := 1537
  interfaces := #[]
  cf := some (fileOf pool3 2 #[] #[] 1537 4 #[] #[])
  fields := #[]
  methods := #[]
  instanceTypes := #[]
  staticTypes := #[]
  resolved := Array.replicate 8 none
  statics := none }

def pool4 : Array CpInfo := pool [(1, u "java/io/Serializable"), (0, .class_ 1), (0, u "java/lang/Object"), (0, .class_ 3)] 3

/-- java/io/Serializable -/
def k4 : Class := { plain "java/io/Serializable" (some 0) with
  accessFlags := 1537
  interfaces := #[]
  cf := some (fileOf pool4 2 #[] #[] 1537 4 #[] #[])
  fields := #[]
  methods := #[]
  instanceTypes := #[]
  staticTypes := #[]
  resolved := Array.replicate 8 none
  statics := none }

/-- the primitive byte -/
def k5 : Class := { plain "byte" none with kind := .primitive 'B', accessFlags := 0x411 }
/-- [B -/
def k6 : Class := { plain "[B" (some 0) with kind := .array 5 .byte, interfaces := #[3, 4], accessFlags := 1041 }

/-- the primitive int -/
def k7 : Class := { plain "int" none with kind := .primitive 'I', accessFlags := 0x411 }
/-- [I -/
def k8 : Class := { plain "[I" (some 0) with kind := .array 7 .int, interfaces := #[3, 4], accessFlags := 1041 }

/-- the primitive long -/
def k9 : Class := { plain "long" none with kind := .primitive 'J', accessFlags := 0x411 }
/-- [J -/
def k10 : Class := { plain "[J" (some 0) with kind := .array 9 .long, interfaces := #[3, 4], accessFlags := 1041 }

def heap : Heap := #[]
def classes : Array Class := #[k0, k1, k2, k3, k4, k5, k6, k7, k8, k9, k10]
def interned : List (Array UInt16 × Addr) := []
def slotsUsed : Nat := 0
def theMethod : MethodId := ⟨1, 1⟩
def args0 : Array Value := #[.int 5, .int 7, .int 9]
def aboutOver (below : List Frame) : State where
  vm := { classes := classes, interned := interned.toArray }
  heap := heap
  slotsUsed := slotsUsed
  threads := #[{ frames := .invoking theMethod args0 :: below }]
def below0 : List Frame := [.native { method := ⟨0, 0⟩, args := #[] }]
def about1 : State := aboutOver below0
def p0 : Program := .bare "" "" ""
def e0 : Env := launch0.env 0 0 0
theorem w_frames : about1.frames = Frame.invoking theMethod args0 :: below0 := rfl
set_option maxRecDepth 65536 in
theorem w_args : argsFit about1.vm theMethod args0 = true := by decide +kernel
set_option maxRecDepth 65536 in
theorem w_heap : heapFits about1 = true := by decide +kernel
set_option maxRecDepth 65536 in
theorem w_runnable : about1.curStatus? = some .runnable := by decide +kernel
set_option maxRecDepth 65536 in
theorem w_alone : about1.alone = true := by decide +kernel
set_option maxRecDepth 65536 in
theorem w_named : about1.methodNamed? x = some theMethod := by decide +kernel
set_option maxRecDepth 65536 in
theorem w_hears : about1.hears theMethod below0 = true := by decide +kernel
set_option maxRecDepth 65536 in
theorem w_ripe : about1.ripe theMethod args0 below0 = true := by decide +kernel
theorem w_running : about1.status = .running := rfl
set_option maxRecDepth 65536 in
theorem w_room : about1.hasRoom e0.platform room_1 = true :=
  launch0.hasRoom_least _ room_1 (by decide +kernel) (by decide +kernel) (by decide +kernel) (by decide +kernel) (by decide +kernel) (by decide +kernel)
theorem allAtoms_all (ts : List Jvm.Cond) (a : Array Jvm.Value) (st : Jvm.State) : (allAtoms ts).before a st = ts.all (fun c => c.before a st) := by
  induction ts with
  | nil => rfl
  | cons c t ih =>
    show (Jvm.Cond.and c (allAtoms t)).before a st = _
    rw [Jvm.Cond.before_and, ih, List.all_cons]
def words1 : List Jvm.Cond := Jvm.Cond.code x code maxLocals ret :: tables_1
/-- a 'code' word, met by the world's own term for the bytes: nothing is compared byte by byte -/
theorem code_word {y : MethodName} {bytes : ByteArray} {mx : Nat} {rt : Option FieldType} {a : Array Value} {s : State} {m : MethodId} {meth : Method} {c : Code} (h1 : s.methodNamed? y = some m) (h2 : s.vm.method? m = some meth) (h3 : meth.code = some c) (h4 : c.code = bytes)
    (h5 : (c.maxLocals == mx && c.exceptionTable.isEmpty && decide (c.maxStack ≤ mostOperands) && decide (meth.sig.returnType = rt) && !meth.locks && decide (parseMethodDescriptor y.desc = some meth.sig)) = true) : (Jvm.Cond.code y bytes mx rt).before a s = true := by
  simp only [Bool.and_eq_true, beq_iff_eq, Bool.not_eq_true', decide_eq_true_eq] at h5
  obtain ⟨⟨⟨⟨⟨g1, g2⟩, g3⟩, g4⟩, g5⟩, g6⟩ := h5
  simp [Cond.before, Cond.holds, Cond.value, h1, h2, h3, h4, g1, g2, g3, g4, g5, g6]
def isCode : Jvm.Cond → Bool
  | .code _ _ _ _ => true
  | _ => false
theorem all_split {L : List Jvm.Cond} {P : Jvm.Cond → Bool} (h1 : L.all (fun c => isCode c || P c) = true) (h2 : ∀ c ∈ L.filter isCode, P c = true) : L.all P = true := by
  refine List.all_eq_true.mpr fun c hc => ?_
  have h := List.all_eq_true.mp h1 c hc
  rcases Bool.eq_false_or_eq_true (isCode c) with hi | hi
  · exact h2 c (List.mem_filter.mpr ⟨hc, hi⟩)
  · simpa [hi] using h
set_option maxRecDepth 65536 in
theorem w_c0 : (Jvm.Cond.code x code maxLocals ret).before args0 about1 = true := code_word (m := ⟨1, 1⟩) (meth := k1m1) (c := k1c1) (by decide +kernel) rfl rfl rfl (by decide +kernel)
set_option maxRecDepth 65536 in
theorem w_c1 : (Jvm.Cond.code ({ cls := "com/example/ridgeline/ridgeline/filtering/Places", name := "<init>", desc := "(I)V" } : Jvm.MethodName) prog_36_method_1_code (3 : Nat) (Option.none : Option Jvm.ClassFile.FieldType)).before args0 about1 = true := code_word (m := ⟨2, 0⟩) (meth := k2m0) (c := k2c0) (by decide +kernel) rfl rfl rfl (by decide +kernel)
set_option maxRecDepth 65536 in
theorem w_c2 : (Jvm.Cond.code ({ cls := "java/lang/Object", name := "<init>", desc := "()V" } : Jvm.MethodName) object_method_1_code (1 : Nat) (Option.none : Option Jvm.ClassFile.FieldType)).before args0 about1 = true := code_word (m := ⟨0, 0⟩) (meth := k0m0) (c := k0c0) (by decide +kernel) rfl rfl rfl (by decide +kernel)
set_option maxRecDepth 65536 in
theorem w_c3 : (Jvm.Cond.code ({ cls := "com/example/ridgeline/ridgeline/filtering/Places", name := "between", desc := "(II)J" } : Jvm.MethodName) prog_36_method_7_code (3 : Nat) (Option.some Jvm.ClassFile.FieldType.long)).before args0 about1 = true := code_word (m := ⟨2, 1⟩) (meth := k2m1) (c := k2c1) (by decide +kernel) rfl rfl rfl (by decide +kernel)
def codes1 : List Jvm.Cond := [Jvm.Cond.code x code maxLocals ret, Jvm.Cond.code ({ cls := "com/example/ridgeline/ridgeline/filtering/Places", name := "<init>", desc := "(I)V" } : Jvm.MethodName) prog_36_method_1_code (3 : Nat) (Option.none : Option Jvm.ClassFile.FieldType), Jvm.Cond.code ({ cls := "java/lang/Object", name := "<init>", desc := "()V" } : Jvm.MethodName) object_method_1_code (1 : Nat) (Option.none : Option Jvm.ClassFile.FieldType), Jvm.Cond.code ({ cls := "com/example/ridgeline/ridgeline/filtering/Places", name := "between", desc := "(II)J" } : Jvm.MethodName) prog_36_method_7_code (3 : Nat) (Option.some Jvm.ClassFile.FieldType.long)]
set_option maxRecDepth 65536 in
theorem codes_eq : words1.filter isCode = codes1 := rfl
theorem w_codes : ∀ c ∈ words1.filter isCode, c.before args0 about1 = true := by
  rw [codes_eq]
  intro c hc
  simp only [codes1, List.mem_cons, List.not_mem_nil, or_false] at hc
  rcases hc with rfl | rfl | rfl | rfl
  · exact w_c0
  · exact w_c1
  · exact w_c2
  · exact w_c3
set_option maxRecDepth 65536 in
theorem w_t1 : (words1.take 24).all (fun c => isCode c || c.before args0 about1) = true := by decide +kernel
set_option maxRecDepth 65536 in
theorem w_t2 : (words1.drop 24).all (fun c => isCode c || c.before args0 about1) = true := by decide +kernel
theorem w_tables : (allAtoms (Jvm.Cond.code x code maxLocals ret :: tables_1)).before args0 about1 = true := by
  rw [allAtoms_all]
  show words1.all (fun c => c.before args0 about1) = true
  refine all_split ?_ w_codes
  rw [← List.take_append_drop 24 words1, List.all_append, w_t1, w_t2]
  rfl
set_option maxRecDepth 65536 in
theorem w_case : (Jvm.Cond.and given_1 narrow_1).before args0 about1 = true := by decide +kernel
theorem w_applies : (headSpec (Jvm.Cond.code x code maxLocals ret :: tables_1) room_1).applies x e0.platform about1 = true :=
  (Spec.applies_iff w_frames).mpr ⟨w_running, w_runnable, w_alone, w_named, w_hears, w_ripe, w_room, w_tables⟩
theorem atStart : AtStart classFile x code maxLocals ret World_1 tables_1 room_1 Calls_1 rest_1 Pre_1 launch0 p0 e0 about1 theMethod args0 below0 :=
  ⟨lists_1, trivial, launch0.admits_env _ _ _, launch0.least_env, fairChoices_fair.cas, fairChoices_fair.clock, w_frames, w_args, w_heap, w_applies, trivial, trivial, w_case⟩
end start1
theorem witness_1 : WitnessClaimed_1 := ⟨start1.p0, start1.e0, start1.about1, start1.theMethod, start1.args0, start1.below0, start1.atStart⟩
end Jvm.Pilot.@@N@@
