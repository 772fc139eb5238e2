import JvmDerived
import JvmDerived.Pilot.@@N@@Statement
import JvmDerived.Pilot.@@N@@Code
set_option linter.unusedVariables false
set_option linter.unusedSimpArgs false
namespace Jvm.Pilot.@@N@@
open Jvm Jvm.ClassFile Sem Op Lib Jvm.Free Jvm.Stand Jvm.LawKit Jvm.RoadKit Bundle Jvm.Pilot.@@N@@.Jvm.D
/-! own kit: the walk in program order: own_G says that from this frame on the run ends as promised -/
def own_G (tb : Tables) (e : Env) (below : List Frame) (P : Outcome → State → Prop) (T : State) (f : JFrame) : Prop :=
  ∃ s₂ o, Steps tb e below (T.setTop f) s₂ ∧ s₂.status = .running ∧ Ended s₂ below o ∧ P o s₂
def own_P (s : State) (Q : Option Value → Heap → List Loc → Prop) (C S : Nat) (o : Outcome) (U : State) : Prop :=
  ∃ v L, o = .returned v ∧ Q v U.heap L ∧ FrameEnd s o U L C S
theorem own_go {tb : Tables} {e : Env} {below : List Frame} {P : Outcome → State → Prop} {T T' : State} {f f' : JFrame} (st : ∀ target, Steps tb e below (T'.setTop f') target → Steps tb e below (T.setTop f) target) (k : own_G tb e below P T' f') : own_G tb e below P T f := by
  obtain ⟨s₂, o, h1, h2⟩ := k
  exact ⟨s₂, o, st _ h1, h2⟩
section OwnKit
variable {p : Program} {l : Launch} {e : Env} {R : Room} {s : State} {m : MethodId} {args : Array Value} {below : List Frame} {meth : Method} {c : Code} {T : State} {locs : List Loc} {cells slots : Nat} {Z : State} {a0 : Array Value} {h : Heap} {P : Outcome → State → Prop}
theorem own_body {y : MethodName} {bytes : ByteArray} {maxL : Nat} {ret : Option FieldType} {ws : List Jvm.Cond} {rm : Room} {as' : Array Value} {Q : Option Value → Heap → List Loc → Prop} {C S : Nat} (pn : plainFor y = true)
    (body : ∀ p e s m below meth c s₁, p.tables.exec = Jvm.exec → c.code = bytes → c.maxLocals = maxL → s.vm.findClass y.cls = some m.cls → meth.name = y.name → meth.locks = false → meth.sig.returnType = ret → Z.Warmed39 s.vm → Stand p l e rm s m as' below meth c s₁ [] 0 0 → s₁.heap = h →
      own_G p.tables e below (own_P s Q C S) s₁ (entryFrame m as' maxL)) :
    MetFree l y (head1 (Jvm.Cond.code y bytes maxL ret :: ws) rm) (fun a U => a = as' ∧ Z.Warmed39 U.vm ∧ U.heap = h) (fun _ _ _ _ _ => True) (fun _ U o U' => ∃ v L, o = .returned v ∧ Q v U'.heap L ∧ FrameEnd U o U' L C S) := by
  refine MetFree.of_bodySF (maxLocals := maxL) (ret := ret) (code := bytes) pn hisR ?_
  intro p e s m args below meth c s₁ Bd hml0 hP hK
  obtain ⟨rfl, hZ, hh⟩ := hP
  exact body p e s m below meth c s₁ Bd.exec Bd.bytes hml0 (findClass_of_methodNamed Bd.named) (name_of_methodNamed Bd.named Bd.method).1 (BodyLoose.notSynchronized Bd) Bd.returns hZ (Stand.of_body Bd) (by rw [← hh, Bd.state]; rfl)
theorem own_ret {v : Option Value} {f : JFrame} {Q : Option Value → Heap → List Loc → Prop} {C S : Nat} (X : Stand p l e R s m args below meth c T locs cells slots) (hlk : meth.locks = false) (hv : meth.sig.returnType = none → v = none)
    (st : ∀ fs, (∀ (f : JFrame) (acts : List Action), f.method = m → f.locked = none → f.entered = [] → (doReturn e (T.setTop f) acts v).1 = T.setFrames fs) → Steps p.tables e below (T.setTop f) (T.setFrames fs)) (hC : cells ≤ C) (hS : slots ≤ S) (hq : Q v T.heap locs) : own_G p.tables e below (own_P s Q C S) T f := by
  obtain ⟨fs, hr, hrun, hended, hW, hsame⟩ := X.leave (v := v) hv hlk
  exact ⟨_, _, st fs hr, hrun, hended, _, _, rfl, hq, ⟨_, rfl⟩, hW, hsame.mono hC hS⟩
theorem own_retN {Q : Option Value → Heap → List Loc → Prop} {C S : Nat} (X : Stand p l e R s m args below meth c T locs cells slots) (hx : p.tables.exec = Jvm.exec) (hlk : meth.locks = false) {t : FieldType} (hret : meth.sig.returnType = some t) (ht : t = .boolean ∨ t = .byte ∨ t = .char ∨ t = .short) {pc : Nat} {Ls : Array Slot} {z : Int32} {rest : List Value} (hd : decode c.code pc = .ok (.ireturn, 1)) (hC : cells ≤ C) (hS : slots ≤ S) (hq : Q (some (.int (nar t z))) T.heap locs) :
    own_G p.tables e below (own_P s Q C S) T (mkF m pc Ls (.int z :: rest)) :=
  own_ret X hlk (fun h => by rw [hret] at h; cases h) (fun fs hr => retN X hx hret ht hd hr) hC hS hq
theorem own_retI {Q : Option Value → Heap → List Loc → Prop} {C S : Nat} (X : Stand p l e R s m args below meth c T locs cells slots) (hx : p.tables.exec = Jvm.exec) (hlk : meth.locks = false) (hret : meth.sig.returnType = some .int) {pc : Nat} {Ls : Array Slot} {z : Int32} {rest : List Value} (hd : decode c.code pc = .ok (.ireturn, 1)) (hC : cells ≤ C) (hS : slots ≤ S) (hq : Q (some (.int z)) T.heap locs) :
    own_G p.tables e below (own_P s Q C S) T (mkF m pc Ls (.int z :: rest)) :=
  own_ret X hlk (fun h => by rw [hret] at h; cases h) (fun fs hr => retOut X hx hret rfl (Or.inl ⟨rfl, Or.inl rfl, z, rfl⟩) hd hr) hC hS hq
theorem own_retJ {Q : Option Value → Heap → List Loc → Prop} {C S : Nat} (X : Stand p l e R s m args below meth c T locs cells slots) (hx : p.tables.exec = Jvm.exec) (hlk : meth.locks = false) (hret : meth.sig.returnType = some .long) {pc : Nat} {Ls : Array Slot} {z : Int64} {rest : List Value} (hd : decode c.code pc = .ok (.lreturn, 1)) (hC : cells ≤ C) (hS : slots ≤ S) (hq : Q (some (.long z)) T.heap locs) :
    own_G p.tables e below (own_P s Q C S) T (mkF m pc Ls (.long z :: rest)) :=
  own_ret X hlk (fun h => by rw [hret] at h; cases h) (fun fs hr => retOut X hx hret rfl (Or.inr (Or.inl ⟨rfl, rfl, z, rfl⟩)) hd hr) hC hS hq
theorem own_retA {Q : Option Value → Heap → List Loc → Prop} {C S : Nat} (X : Stand p l e R s m args below meth c T locs cells slots) (hx : p.tables.exec = Jvm.exec) (hlk : meth.locks = false) {t : FieldType} (hret : meth.sig.returnType = some t) (ht : t.isReference = true) {pc : Nat} {Ls : Array Slot} {w : Value} {rest : List Value} (hw : w.isRef = true) (hn : narrow t w = w) (hd : decode c.code pc = .ok (.areturn, 1)) (hC : cells ≤ C) (hS : slots ≤ S) (hq : Q (some w) T.heap locs) :
    own_G p.tables e below (own_P s Q C S) T (mkF m pc Ls (w :: rest)) :=
  own_ret X hlk (fun h => by rw [hret] at h; cases h) (fun fs hr => retOut X hx hret hn (Or.inr (Or.inr (Or.inr (Or.inr ⟨rfl, ht, hw⟩)))) hd hr) hC hS hq
theorem own_retV {Q : Option Value → Heap → List Loc → Prop} {C S : Nat} (X : Stand p l e R s m args below meth c T locs cells slots) (hx : p.tables.exec = Jvm.exec) (hlk : meth.locks = false) (hret : meth.sig.returnType = none) {pc : Nat} {Ls : Array Slot} (hd : decode c.code pc = .ok (.return_, 1)) (hC : cells ≤ C) (hS : slots ≤ S) (hq : Q none T.heap locs) :
    own_G p.tables e below (own_P s Q C S) T (mkF m pc Ls []) :=
  own_ret X hlk (fun h => rfl) (fun fs hr => X.returnOut hx hret hd hr) hC hS hq
theorem own_iadd (X : Stand p l e R s m args below meth c T locs cells slots) (hx : p.tables.exec = Jvm.exec) {pc pc' : Nat} {Ls : Array Slot} {x y z : Int32} {rest : List Value} (hd : decode c.code pc = .ok (.iadd, 1)) (hz : x + y = z) (hp : pc + 1 = pc') (k : own_G p.tables e below P T (mkF m pc' Ls (.int z :: rest))) : own_G p.tables e below P T (mkF m pc Ls (.int y :: .int x :: rest)) := by
  subst hp; subst hz; exact own_go (fun t q => XS.iadd X.here hx rfl hd rfl q) k
theorem own_isub (X : Stand p l e R s m args below meth c T locs cells slots) (hx : p.tables.exec = Jvm.exec) {pc pc' : Nat} {Ls : Array Slot} {x y z : Int32} {rest : List Value} (hd : decode c.code pc = .ok (.isub, 1)) (hz : x - y = z) (hp : pc + 1 = pc') (k : own_G p.tables e below P T (mkF m pc' Ls (.int z :: rest))) : own_G p.tables e below P T (mkF m pc Ls (.int y :: .int x :: rest)) := by
  subst hp; subst hz; exact own_go (fun t q => XS.isub X.here hx rfl hd rfl q) k
theorem own_imul (X : Stand p l e R s m args below meth c T locs cells slots) (hx : p.tables.exec = Jvm.exec) {pc pc' : Nat} {Ls : Array Slot} {x y z : Int32} {rest : List Value} (hd : decode c.code pc = .ok (.imul, 1)) (hz : x * y = z) (hp : pc + 1 = pc') (k : own_G p.tables e below P T (mkF m pc' Ls (.int z :: rest))) : own_G p.tables e below P T (mkF m pc Ls (.int y :: .int x :: rest)) := by
  subst hp; subst hz; exact own_go (fun t q => XS.imul X.here hx rfl hd rfl q) k
theorem own_iand (X : Stand p l e R s m args below meth c T locs cells slots) (hx : p.tables.exec = Jvm.exec) {pc pc' : Nat} {Ls : Array Slot} {x y z : Int32} {rest : List Value} (hd : decode c.code pc = .ok (.iand, 1)) (hz : x &&& y = z) (hp : pc + 1 = pc') (k : own_G p.tables e below P T (mkF m pc' Ls (.int z :: rest))) : own_G p.tables e below P T (mkF m pc Ls (.int y :: .int x :: rest)) := by
  subst hp; subst hz; exact own_go (fun t q => XS.iand X.here hx rfl hd rfl q) k
theorem own_ior (X : Stand p l e R s m args below meth c T locs cells slots) (hx : p.tables.exec = Jvm.exec) {pc pc' : Nat} {Ls : Array Slot} {x y z : Int32} {rest : List Value} (hd : decode c.code pc = .ok (.ior, 1)) (hz : x ||| y = z) (hp : pc + 1 = pc') (k : own_G p.tables e below P T (mkF m pc' Ls (.int z :: rest))) : own_G p.tables e below P T (mkF m pc Ls (.int y :: .int x :: rest)) := by
  subst hp; subst hz; exact own_go (fun t q => XS.ior X.here hx rfl hd rfl q) k
theorem own_ixor (X : Stand p l e R s m args below meth c T locs cells slots) (hx : p.tables.exec = Jvm.exec) {pc pc' : Nat} {Ls : Array Slot} {x y z : Int32} {rest : List Value} (hd : decode c.code pc = .ok (.ixor, 1)) (hz : x ^^^ y = z) (hp : pc + 1 = pc') (k : own_G p.tables e below P T (mkF m pc' Ls (.int z :: rest))) : own_G p.tables e below P T (mkF m pc Ls (.int y :: .int x :: rest)) := by
  subst hp; subst hz; exact own_go (fun t q => XS.ixor X.here hx rfl hd rfl q) k
theorem own_ladd (X : Stand p l e R s m args below meth c T locs cells slots) (hx : p.tables.exec = Jvm.exec) {pc pc' : Nat} {Ls : Array Slot} {x y z : Int64} {rest : List Value} (hd : decode c.code pc = .ok (.ladd, 1)) (hz : x + y = z) (hp : pc + 1 = pc') (k : own_G p.tables e below P T (mkF m pc' Ls (.long z :: rest))) : own_G p.tables e below P T (mkF m pc Ls (.long y :: .long x :: rest)) := by
  subst hp; subst hz; exact own_go (fun t q => XS.ladd X.here hx rfl hd rfl q) k
theorem own_lsub (X : Stand p l e R s m args below meth c T locs cells slots) (hx : p.tables.exec = Jvm.exec) {pc pc' : Nat} {Ls : Array Slot} {x y z : Int64} {rest : List Value} (hd : decode c.code pc = .ok (.lsub, 1)) (hz : x - y = z) (hp : pc + 1 = pc') (k : own_G p.tables e below P T (mkF m pc' Ls (.long z :: rest))) : own_G p.tables e below P T (mkF m pc Ls (.long y :: .long x :: rest)) := by
  subst hp; subst hz; exact own_go (fun t q => XS.lsub X.here hx rfl hd rfl q) k
theorem own_lmul (X : Stand p l e R s m args below meth c T locs cells slots) (hx : p.tables.exec = Jvm.exec) {pc pc' : Nat} {Ls : Array Slot} {x y z : Int64} {rest : List Value} (hd : decode c.code pc = .ok (.lmul, 1)) (hz : x * y = z) (hp : pc + 1 = pc') (k : own_G p.tables e below P T (mkF m pc' Ls (.long z :: rest))) : own_G p.tables e below P T (mkF m pc Ls (.long y :: .long x :: rest)) := by
  subst hp; subst hz; exact own_go (fun t q => XS.lmul X.here hx rfl hd rfl q) k
theorem own_land (X : Stand p l e R s m args below meth c T locs cells slots) (hx : p.tables.exec = Jvm.exec) {pc pc' : Nat} {Ls : Array Slot} {x y z : Int64} {rest : List Value} (hd : decode c.code pc = .ok (.land, 1)) (hz : x &&& y = z) (hp : pc + 1 = pc') (k : own_G p.tables e below P T (mkF m pc' Ls (.long z :: rest))) : own_G p.tables e below P T (mkF m pc Ls (.long y :: .long x :: rest)) := by
  subst hp; subst hz; exact own_go (fun t q => XS.land X.here hx rfl hd rfl q) k
theorem own_lor (X : Stand p l e R s m args below meth c T locs cells slots) (hx : p.tables.exec = Jvm.exec) {pc pc' : Nat} {Ls : Array Slot} {x y z : Int64} {rest : List Value} (hd : decode c.code pc = .ok (.lor, 1)) (hz : x ||| y = z) (hp : pc + 1 = pc') (k : own_G p.tables e below P T (mkF m pc' Ls (.long z :: rest))) : own_G p.tables e below P T (mkF m pc Ls (.long y :: .long x :: rest)) := by
  subst hp; subst hz; exact own_go (fun t q => XS.lor X.here hx rfl hd rfl q) k
theorem own_lxor (X : Stand p l e R s m args below meth c T locs cells slots) (hx : p.tables.exec = Jvm.exec) {pc pc' : Nat} {Ls : Array Slot} {x y z : Int64} {rest : List Value} (hd : decode c.code pc = .ok (.lxor, 1)) (hz : x ^^^ y = z) (hp : pc + 1 = pc') (k : own_G p.tables e below P T (mkF m pc' Ls (.long z :: rest))) : own_G p.tables e below P T (mkF m pc Ls (.long y :: .long x :: rest)) := by
  subst hp; subst hz; exact own_go (fun t q => XS.lxor X.here hx rfl hd rfl q) k
theorem own_ishl (X : Stand p l e R s m args below meth c T locs cells slots) (hx : p.tables.exec = Jvm.exec) {pc pc' : Nat} {Ls : Array Slot} {x y : Int32} {rest : List Value} (hd : decode c.code pc = .ok (.ishl, 1)) (hp : pc + 1 = pc') (k : own_G p.tables e below P T (mkF m pc' Ls (.int (x <<< (y &&& 31)) :: rest))) : own_G p.tables e below P T (mkF m pc Ls (.int y :: .int x :: rest)) := by
  subst hp; exact own_go (fun t q => XS.ishl X.here hx rfl hd rfl q) k
theorem own_ishr (X : Stand p l e R s m args below meth c T locs cells slots) (hx : p.tables.exec = Jvm.exec) {pc pc' : Nat} {Ls : Array Slot} {x y : Int32} {rest : List Value} (hd : decode c.code pc = .ok (.ishr, 1)) (hp : pc + 1 = pc') (k : own_G p.tables e below P T (mkF m pc' Ls (.int (x >>> (y &&& 31)) :: rest))) : own_G p.tables e below P T (mkF m pc Ls (.int y :: .int x :: rest)) := by
  subst hp; exact own_go (fun t q => XS.ishr X.here hx rfl hd rfl q) k
theorem own_iushr (X : Stand p l e R s m args below meth c T locs cells slots) (hx : p.tables.exec = Jvm.exec) {pc pc' : Nat} {Ls : Array Slot} {x y : Int32} {rest : List Value} (hd : decode c.code pc = .ok (.iushr, 1)) (hp : pc + 1 = pc') (k : own_G p.tables e below P T (mkF m pc' Ls (.int ((x.toUInt32 >>> (y &&& 31).toUInt32).toInt32) :: rest))) : own_G p.tables e below P T (mkF m pc Ls (.int y :: .int x :: rest)) := by
  subst hp; exact own_go (fun t q => XS.iushr X.here hx rfl hd rfl q) k
theorem own_lshl (X : Stand p l e R s m args below meth c T locs cells slots) (hx : p.tables.exec = Jvm.exec) {pc pc' : Nat} {Ls : Array Slot} {x : Int64} {y : Int32} {rest : List Value} (hd : decode c.code pc = .ok (.lshl, 1)) (hp : pc + 1 = pc') (k : own_G p.tables e below P T (mkF m pc' Ls (.long (x <<< (y &&& 0x3f).toInt64) :: rest))) : own_G p.tables e below P T (mkF m pc Ls (.int y :: .long x :: rest)) := by
  subst hp; exact own_go (fun t q => XS.lshl X.here hx rfl hd rfl q) k
theorem own_lshr (X : Stand p l e R s m args below meth c T locs cells slots) (hx : p.tables.exec = Jvm.exec) {pc pc' : Nat} {Ls : Array Slot} {x : Int64} {y : Int32} {rest : List Value} (hd : decode c.code pc = .ok (.lshr, 1)) (hp : pc + 1 = pc') (k : own_G p.tables e below P T (mkF m pc' Ls (.long (x >>> (y &&& 0x3f).toInt64) :: rest))) : own_G p.tables e below P T (mkF m pc Ls (.int y :: .long x :: rest)) := by
  subst hp; exact own_go (fun t q => XS.lshr X.here hx rfl hd rfl q) k
theorem own_lushr (X : Stand p l e R s m args below meth c T locs cells slots) (hx : p.tables.exec = Jvm.exec) {pc pc' : Nat} {Ls : Array Slot} {x : Int64} {y : Int32} {rest : List Value} (hd : decode c.code pc = .ok (.lushr, 1)) (hp : pc + 1 = pc') (k : own_G p.tables e below P T (mkF m pc' Ls (.long ((x.toUInt64 >>> (y &&& 0x3f).toInt64.toUInt64).toInt64) :: rest))) : own_G p.tables e below P T (mkF m pc Ls (.int y :: .long x :: rest)) := by
  subst hp; exact own_go (fun t q => XS.lushr X.here hx rfl hd rfl q) k
theorem own_i2l (X : Stand p l e R s m args below meth c T locs cells slots) (hx : p.tables.exec = Jvm.exec) {pc pc' : Nat} {Ls : Array Slot} {x : Int32} {rest : List Value} (hd : decode c.code pc = .ok (.i2l, 1)) (hp : pc + 1 = pc') (k : own_G p.tables e below P T (mkF m pc' Ls (.long (x.toInt64) :: rest))) : own_G p.tables e below P T (mkF m pc Ls (.int x :: rest)) := by
  subst hp; exact own_go (fun t q => XS.i2l X.here hx rfl hd rfl q) k
theorem own_l2i (X : Stand p l e R s m args below meth c T locs cells slots) (hx : p.tables.exec = Jvm.exec) {pc pc' : Nat} {Ls : Array Slot} {x : Int64} {rest : List Value} (hd : decode c.code pc = .ok (.l2i, 1)) (hp : pc + 1 = pc') (k : own_G p.tables e below P T (mkF m pc' Ls (.int (x.toInt32) :: rest))) : own_G p.tables e below P T (mkF m pc Ls (.long x :: rest)) := by
  subst hp; exact own_go (fun t q => XS.l2i X.here hx rfl hd rfl q) k
theorem own_i2b (X : Stand p l e R s m args below meth c T locs cells slots) (hx : p.tables.exec = Jvm.exec) {pc pc' : Nat} {Ls : Array Slot} {x : Int32} {rest : List Value} (hd : decode c.code pc = .ok (.i2b, 1)) (hp : pc + 1 = pc') (k : own_G p.tables e below P T (mkF m pc' Ls (.int (x.toInt8.toInt32) :: rest))) : own_G p.tables e below P T (mkF m pc Ls (.int x :: rest)) := by
  subst hp; exact own_go (fun t q => XS.i2b X.here hx rfl hd rfl q) k
theorem own_i2s (X : Stand p l e R s m args below meth c T locs cells slots) (hx : p.tables.exec = Jvm.exec) {pc pc' : Nat} {Ls : Array Slot} {x : Int32} {rest : List Value} (hd : decode c.code pc = .ok (.i2s, 1)) (hp : pc + 1 = pc') (k : own_G p.tables e below P T (mkF m pc' Ls (.int (x.toInt16.toInt32) :: rest))) : own_G p.tables e below P T (mkF m pc Ls (.int x :: rest)) := by
  subst hp; exact own_go (fun t q => XS.i2s X.here hx rfl hd rfl q) k
theorem own_i2c (X : Stand p l e R s m args below meth c T locs cells slots) (hx : p.tables.exec = Jvm.exec) {pc pc' : Nat} {Ls : Array Slot} {x : Int32} {rest : List Value} (hd : decode c.code pc = .ok (.i2c, 1)) (hp : pc + 1 = pc') (k : own_G p.tables e below P T (mkF m pc' Ls (.int (x.toUInt32.toUInt16.toUInt32.toInt32) :: rest))) : own_G p.tables e below P T (mkF m pc Ls (.int x :: rest)) := by
  subst hp; exact own_go (fun t q => XS.i2c X.here hx rfl hd rfl q) k
theorem own_ineg (X : Stand p l e R s m args below meth c T locs cells slots) (hx : p.tables.exec = Jvm.exec) {pc pc' : Nat} {Ls : Array Slot} {x : Int32} {rest : List Value} (hd : decode c.code pc = .ok (.ineg, 1)) (hp : pc + 1 = pc') (k : own_G p.tables e below P T (mkF m pc' Ls (.int (-x) :: rest))) : own_G p.tables e below P T (mkF m pc Ls (.int x :: rest)) := by
  subst hp; exact own_go (fun t q => XS.ineg X.here hx rfl hd rfl q) k
theorem own_lneg (X : Stand p l e R s m args below meth c T locs cells slots) (hx : p.tables.exec = Jvm.exec) {pc pc' : Nat} {Ls : Array Slot} {x : Int64} {rest : List Value} (hd : decode c.code pc = .ok (.lneg, 1)) (hp : pc + 1 = pc') (k : own_G p.tables e below P T (mkF m pc' Ls (.long (-x) :: rest))) : own_G p.tables e below P T (mkF m pc Ls (.long x :: rest)) := by
  subst hp; exact own_go (fun t q => XS.lneg X.here hx rfl hd rfl q) k
theorem own_lcmp (X : Stand p l e R s m args below meth c T locs cells slots) (hx : p.tables.exec = Jvm.exec) {pc pc' : Nat} {Ls : Array Slot} {x y : Int64} {rest : List Value} (hd : decode c.code pc = .ok (.lcmp, 1)) (hp : pc + 1 = pc') (k : own_G p.tables e below P T (mkF m pc' Ls (.int (lcmpW x y) :: rest))) : own_G p.tables e below P T (mkF m pc Ls (.long y :: .long x :: rest)) := by
  subst hp; exact own_go (fun t q => XS.lcmp X.here hx rfl hd rfl q) k
theorem own_idiv (X : Stand p l e R s m args below meth c T locs cells slots) (hx : p.tables.exec = Jvm.exec) {pc pc' : Nat} {Ls : Array Slot} {x y z : Int32} {rest : List Value} (hd : decode c.code pc = .ok (.idiv, 1)) (hz : x / y = z) (hy : y ≠ 0) (hp : pc + 1 = pc') (k : own_G p.tables e below P T (mkF m pc' Ls (.int z :: rest))) : own_G p.tables e below P T (mkF m pc Ls (.int y :: .int x :: rest)) := by
  subst hp; subst hz; exact own_go (fun t q => XS.idiv X.here hx rfl hd rfl hy q) k
theorem own_irem (X : Stand p l e R s m args below meth c T locs cells slots) (hx : p.tables.exec = Jvm.exec) {pc pc' : Nat} {Ls : Array Slot} {x y : Int32} {rest : List Value} (hd : decode c.code pc = .ok (.irem, 1)) (hy : y ≠ 0) (hp : pc + 1 = pc') (k : own_G p.tables e below P T (mkF m pc' Ls (.int (x % y) :: rest))) : own_G p.tables e below P T (mkF m pc Ls (.int y :: .int x :: rest)) := by
  subst hp; exact own_go (fun t q => iremM X hx rfl hd rfl hy q) k
theorem own_iloadN (X : Stand p l e R s m args below meth c T locs cells slots) (hx : p.tables.exec = Jvm.exec) {pc pc' : Nat} {Ls : Array Slot} {j : Fin 4} {v : Int32} {st : List Value} (hd : decode c.code pc = .ok (.iload_n j, 1)) (hl : Ls[j.val]? = some (.val (.int v))) (hp : pc + 1 = pc') (k : own_G p.tables e below P T (mkF m pc' Ls (.int v :: st))) : own_G p.tables e below P T (mkF m pc Ls (st)) := by
  subst hp; exact own_go (fun t q => XS.iloadN X.here hx rfl hd hl q) k
theorem own_iload (X : Stand p l e R s m args below meth c T locs cells slots) (hx : p.tables.exec = Jvm.exec) {pc pc' : Nat} {Ls : Array Slot} {j : Nat} {v : Int32} {st : List Value} (hd : decode c.code pc = .ok (.iload j, 2)) (hl : Ls[j]? = some (.val (.int v))) (hp : pc + 2 = pc') (k : own_G p.tables e below P T (mkF m pc' Ls (.int v :: st))) : own_G p.tables e below P T (mkF m pc Ls (st)) := by
  subst hp; exact own_go (fun t q => XS.iload X.here hx rfl hd hl q) k
theorem own_lloadN (X : Stand p l e R s m args below meth c T locs cells slots) (hx : p.tables.exec = Jvm.exec) {pc pc' : Nat} {Ls : Array Slot} {j : Fin 4} {v : Int64} {st : List Value} (hd : decode c.code pc = .ok (.lload_n j, 1)) (hl : Ls[j.val]? = some (.val (.long v))) (hp : pc + 1 = pc') (k : own_G p.tables e below P T (mkF m pc' Ls (.long v :: st))) : own_G p.tables e below P T (mkF m pc Ls (st)) := by
  subst hp; exact own_go (fun t q => XS.lloadN X.here hx rfl hd hl q) k
theorem own_lload (X : Stand p l e R s m args below meth c T locs cells slots) (hx : p.tables.exec = Jvm.exec) {pc pc' : Nat} {Ls : Array Slot} {j : Nat} {v : Int64} {st : List Value} (hd : decode c.code pc = .ok (.lload j, 2)) (hl : Ls[j]? = some (.val (.long v))) (hp : pc + 2 = pc') (k : own_G p.tables e below P T (mkF m pc' Ls (.long v :: st))) : own_G p.tables e below P T (mkF m pc Ls (st)) := by
  subst hp; exact own_go (fun t q => XS.lload X.here hx rfl hd hl q) k
theorem own_aloadN (X : Stand p l e R s m args below meth c T locs cells slots) (hx : p.tables.exec = Jvm.exec) {pc pc' : Nat} {Ls : Array Slot} {j : Fin 4} {v : Value} {st : List Value} (hd : decode c.code pc = .ok (.aload_n j, 1)) (hl : Ls[j.val]? = some (.val v)) (hv : v.isRef = true) (hp : pc + 1 = pc') (k : own_G p.tables e below P T (mkF m pc' Ls (v :: st))) : own_G p.tables e below P T (mkF m pc Ls (st)) := by
  subst hp; exact own_go (fun t q => XS.aloadN X.here hx rfl hd hl hv q) k
theorem own_istoreN (X : Stand p l e R s m args below meth c T locs cells slots) (hx : p.tables.exec = Jvm.exec) {pc pc' : Nat} {Ls : Array Slot} {j : Fin 4} {v : Int32} {rest : List Value} {Ls' : Array Slot} (hd : decode c.code pc = .ok (.istore_n j, 1)) (hl : storeLocals Ls j.val (.int v) = some Ls') (hp : pc + 1 = pc') (k : own_G p.tables e below P T (mkF m pc' Ls' (rest))) : own_G p.tables e below P T (mkF m pc Ls (.int v :: rest)) := by
  subst hp; exact own_go (fun t q => XS.istoreN X.here hx rfl hd rfl hl q) k
theorem own_lstoreN (X : Stand p l e R s m args below meth c T locs cells slots) (hx : p.tables.exec = Jvm.exec) {pc pc' : Nat} {Ls : Array Slot} {j : Fin 4} {v : Int64} {rest : List Value} {Ls' : Array Slot} (hd : decode c.code pc = .ok (.lstore_n j, 1)) (hl : storeLocals Ls j.val (.long v) = some Ls') (hp : pc + 1 = pc') (k : own_G p.tables e below P T (mkF m pc' Ls' (rest))) : own_G p.tables e below P T (mkF m pc Ls (.long v :: rest)) := by
  subst hp; exact own_go (fun t q => XS.lstoreN X.here hx rfl hd rfl hl q) k
theorem own_astoreN (X : Stand p l e R s m args below meth c T locs cells slots) (hx : p.tables.exec = Jvm.exec) {pc pc' : Nat} {Ls : Array Slot} {j : Fin 4} {v : Value} {rest : List Value} {Ls' : Array Slot} (hd : decode c.code pc = .ok (.astore_n j, 1)) (hv : v.isRef = true) (hl : storeLocals Ls j.val v = some Ls') (hp : pc + 1 = pc') (k : own_G p.tables e below P T (mkF m pc' Ls' (rest))) : own_G p.tables e below P T (mkF m pc Ls (v :: rest)) := by
  subst hp; exact own_go (fun t q => XS.astoreN X.here hx rfl hd rfl hv hl q) k
theorem own_aload (X : Stand p l e R s m args below meth c T locs cells slots) (hx : p.tables.exec = Jvm.exec) {pc pc' : Nat} {Ls : Array Slot} {j : Nat} {v : Value} {st : List Value} (hd : decode c.code pc = .ok (.aload j, 2)) (hl : Ls[j]? = some (.val v)) (hv : v.isRef = true) (hp : pc + 2 = pc') (k : own_G p.tables e below P T (mkF m pc' Ls (v :: st))) : own_G p.tables e below P T (mkF m pc Ls (st)) := by
  subst hp; exact own_go (fun t q => XS.aload X.here hx rfl hd hl hv q) k
theorem own_istore (X : Stand p l e R s m args below meth c T locs cells slots) (hx : p.tables.exec = Jvm.exec) {pc pc' : Nat} {Ls : Array Slot} {j : Nat} {v : Int32} {rest : List Value} {Ls' : Array Slot} (hd : decode c.code pc = .ok (.istore j, 2)) (hl : storeLocals Ls j (.int v) = some Ls') (hp : pc + 2 = pc') (k : own_G p.tables e below P T (mkF m pc' Ls' (rest))) : own_G p.tables e below P T (mkF m pc Ls (.int v :: rest)) := by
  subst hp; exact own_go (fun t q => XS.istore X.here hx rfl hd rfl hl q) k
theorem own_lstore (X : Stand p l e R s m args below meth c T locs cells slots) (hx : p.tables.exec = Jvm.exec) {pc pc' : Nat} {Ls : Array Slot} {j : Nat} {v : Int64} {rest : List Value} {Ls' : Array Slot} (hd : decode c.code pc = .ok (.lstore j, 2)) (hl : storeLocals Ls j (.long v) = some Ls') (hp : pc + 2 = pc') (k : own_G p.tables e below P T (mkF m pc' Ls' (rest))) : own_G p.tables e below P T (mkF m pc Ls (.long v :: rest)) := by
  subst hp; exact own_go (fun t q => XS.lstore X.here hx rfl hd rfl hl q) k
theorem own_astore (X : Stand p l e R s m args below meth c T locs cells slots) (hx : p.tables.exec = Jvm.exec) {pc pc' : Nat} {Ls : Array Slot} {j : Nat} {v : Value} {rest : List Value} {Ls' : Array Slot} (hd : decode c.code pc = .ok (.astore j, 2)) (hv : v.isRef = true) (hl : storeLocals Ls j v = some Ls') (hp : pc + 2 = pc') (k : own_G p.tables e below P T (mkF m pc' Ls' (rest))) : own_G p.tables e below P T (mkF m pc Ls (v :: rest)) := by
  subst hp; exact own_go (fun t q => XS.astore X.here hx rfl hd rfl hv hl q) k
theorem own_iinc (X : Stand p l e R s m args below meth c T locs cells slots) (hx : p.tables.exec = Jvm.exec) {pc pc' : Nat} {Ls : Array Slot} {j : Nat} {cst : Int} {x : Int32} {st : List Value} {Ls' : Array Slot} (hd : decode c.code pc = .ok (.iinc j cst, 3)) (hl : Ls[j]? = some (.val (.int x))) (hl' : storeLocals Ls j (.int (x + Int32.ofInt cst)) = some Ls') (hp : pc + 3 = pc') (k : own_G p.tables e below P T (mkF m pc' Ls' (st))) : own_G p.tables e below P T (mkF m pc Ls (st)) := by
  subst hp; exact own_go (fun t q => XS.iinc X.here hx rfl hd hl hl' q) k
theorem own_iconst (X : Stand p l e R s m args below meth c T locs cells slots) (hx : p.tables.exec = Jvm.exec) {pc pc' : Nat} {Ls : Array Slot} {i : Int} {st : List Value} (z : Int32) (hd : decode c.code pc = .ok (.iconst i, 1)) (hz : Int32.ofInt i = z) (hp : pc + 1 = pc') (k : own_G p.tables e below P T (mkF m pc' Ls (.int z :: st))) : own_G p.tables e below P T (mkF m pc Ls (st)) := by
  subst hp; subst hz; exact own_go (fun t q => XS.iconst X.here hx rfl hd q) k
theorem own_bipush (X : Stand p l e R s m args below meth c T locs cells slots) (hx : p.tables.exec = Jvm.exec) {pc pc' : Nat} {Ls : Array Slot} {i : Int} {st : List Value} (z : Int32) (hd : decode c.code pc = .ok (.bipush i, 2)) (hz : (Int8.ofInt i).toInt32 = z) (hp : pc + 2 = pc') (k : own_G p.tables e below P T (mkF m pc' Ls (.int z :: st))) : own_G p.tables e below P T (mkF m pc Ls (st)) := by
  subst hp; subst hz; exact own_go (fun t q => XS.bipush X.here hx rfl hd q) k
theorem own_sipush (X : Stand p l e R s m args below meth c T locs cells slots) (hx : p.tables.exec = Jvm.exec) {pc pc' : Nat} {Ls : Array Slot} {i : Int} {st : List Value} (z : Int32) (hd : decode c.code pc = .ok (.sipush i, 3)) (hz : (Int16.ofInt i).toInt32 = z) (hp : pc + 3 = pc') (k : own_G p.tables e below P T (mkF m pc' Ls (.int z :: st))) : own_G p.tables e below P T (mkF m pc Ls (st)) := by
  subst hp; subst hz; exact own_go (fun t q => XS.sipush X.here hx rfl hd q) k
theorem own_lconst (X : Stand p l e R s m args below meth c T locs cells slots) (hx : p.tables.exec = Jvm.exec) {pc pc' : Nat} {Ls : Array Slot} {i : Fin 2} {st : List Value} (z : Int64) (hd : decode c.code pc = .ok (.lconst i, 1)) (hz : Int64.ofNat i = z) (hp : pc + 1 = pc') (k : own_G p.tables e below P T (mkF m pc' Ls (.long z :: st))) : own_G p.tables e below P T (mkF m pc Ls (st)) := by
  subst hp; subst hz; exact own_go (fun t q => XS.lconst X.here hx rfl hd q) k
theorem own_aconstNull (X : Stand p l e R s m args below meth c T locs cells slots) (hx : p.tables.exec = Jvm.exec) {pc pc' : Nat} {Ls : Array Slot} {st : List Value} (hd : decode c.code pc = .ok (.aconst_null, 1)) (hp : pc + 1 = pc') (k : own_G p.tables e below P T (mkF m pc' Ls (.null :: st))) : own_G p.tables e below P T (mkF m pc Ls (st)) := by
  subst hp; exact own_go (fun t q => XS.aconstNull X.here hx rfl hd q) k
theorem own_dup (X : Stand p l e R s m args below meth c T locs cells slots) (hx : p.tables.exec = Jvm.exec) {pc pc' : Nat} {Ls : Array Slot} {v : Value} {rest : List Value} (hd : decode c.code pc = .ok (.dup, 1)) (hc : v.category = 1) (hp : pc + 1 = pc') (k : own_G p.tables e below P T (mkF m pc' Ls (v :: v :: rest))) : own_G p.tables e below P T (mkF m pc Ls (v :: rest)) := by
  subst hp; exact own_go (fun t q => XS.dup X.here hx rfl hd rfl hc q) k
theorem own_pop (X : Stand p l e R s m args below meth c T locs cells slots) (hx : p.tables.exec = Jvm.exec) {pc pc' : Nat} {Ls : Array Slot} {v : Value} {rest : List Value} (hd : decode c.code pc = .ok (.pop, 1)) (hc : v.category = 1) (hp : pc + 1 = pc') (k : own_G p.tables e below P T (mkF m pc' Ls (rest))) : own_G p.tables e below P T (mkF m pc Ls (v :: rest)) := by
  subst hp; exact own_go (fun t q => XS.pop X.here hx rfl hd rfl hc q) k
theorem own_dupX1 (X : Stand p l e R s m args below meth c T locs cells slots) (hx : p.tables.exec = Jvm.exec) {pc pc' : Nat} {Ls : Array Slot} {v w : Value} {rest : List Value} (hd : decode c.code pc = .ok (.dup_x1, 1)) (hc : v.category = 1) (hc' : w.category = 1) (hp : pc + 1 = pc') (k : own_G p.tables e below P T (mkF m pc' Ls (v :: w :: v :: rest))) : own_G p.tables e below P T (mkF m pc Ls (v :: w :: rest)) := by
  subst hp; exact own_go (fun t q => XS.dupX1 X.here hx rfl hd rfl hc hc' q) k
theorem own_dup2 (X : Stand p l e R s m args below meth c T locs cells slots) (hx : p.tables.exec = Jvm.exec) {pc pc' : Nat} {Ls : Array Slot} {v w : Value} {rest : List Value} (hd : decode c.code pc = .ok (.dup2, 1)) (hc : v.category = 1) (hc' : w.category = 1) (hp : pc + 1 = pc') (k : own_G p.tables e below P T (mkF m pc' Ls (v :: w :: v :: w :: rest))) : own_G p.tables e below P T (mkF m pc Ls (v :: w :: rest)) := by
  subst hp; exact own_go (fun t q => Jvm.Free.XT.dup2 X.here hx rfl hd rfl hc hc' q) k
theorem own_goto (X : Stand p l e R s m args below meth c T locs cells slots) (hx : p.tables.exec = Jvm.exec) {pc pc' : Nat} {Ls : Array Slot} {st : List Value} {o : Int} (hd : decode c.code pc = .ok (.goto o, 3)) (ho : 0 ≤ (pc : Int) + o) (hp : ((pc : Int) + o).toNat = pc') (k : own_G p.tables e below P T (mkF m pc' Ls (st))) : own_G p.tables e below P T (mkF m pc Ls (st)) := by
  exact own_go (fun t q => XS.goto X.here hx rfl (pc0 := pc) (pc' := pc') rfl hd ho hp q) k
theorem own_ifYes (X : Stand p l e R s m args below meth c T locs cells slots) (hx : p.tables.exec = Jvm.exec) {pc pc' : Nat} {Ls : Array Slot} {cd : ClassFile.Cond} {x : Int32} {rest : List Value} {o : Int} (hd : decode c.code pc = .ok (.ifCond cd o, 3)) (hc : if_icmp.holds cd x 0 = true) (ho : 0 ≤ (pc : Int) + o) (hp : ((pc : Int) + o).toNat = pc') (k : own_G p.tables e below P T (mkF m pc' Ls (rest))) : own_G p.tables e below P T (mkF m pc Ls (.int x :: rest)) := by
  exact own_go (fun t q => XS.ifYes X.here hx rfl (pc0 := pc) (pc' := pc') rfl hd rfl ((if0 _ _).trans hc) ho hp q) k
theorem own_icmpYes (X : Stand p l e R s m args below meth c T locs cells slots) (hx : p.tables.exec = Jvm.exec) {pc pc' : Nat} {Ls : Array Slot} {cd : ClassFile.Cond} {x y : Int32} {rest : List Value} {o : Int} (hd : decode c.code pc = .ok (.if_icmp cd o, 3)) (hc : if_icmp.holds cd x y = true) (ho : 0 ≤ (pc : Int) + o) (hp : ((pc : Int) + o).toNat = pc') (k : own_G p.tables e below P T (mkF m pc' Ls (rest))) : own_G p.tables e below P T (mkF m pc Ls (.int y :: .int x :: rest)) := by
  exact own_go (fun t q => XS.icmpYes X.here hx rfl (pc0 := pc) (pc' := pc') rfl hd rfl hc ho hp q) k
theorem own_ifnullYes (X : Stand p l e R s m args below meth c T locs cells slots) (hx : p.tables.exec = Jvm.exec) {pc pc' : Nat} {Ls : Array Slot} {rest : List Value} {o : Int} (hd : decode c.code pc = .ok (.ifnull o, 3)) (ho : 0 ≤ (pc : Int) + o) (hp : ((pc : Int) + o).toNat = pc') (k : own_G p.tables e below P T (mkF m pc' Ls (rest))) : own_G p.tables e below P T (mkF m pc Ls (.null :: rest)) := by
  exact own_go (fun t q => XS.ifnullYes X.here hx rfl (pc0 := pc) (pc' := pc') rfl hd rfl ho hp q) k
theorem own_ifnonnullYes (X : Stand p l e R s m args below meth c T locs cells slots) (hx : p.tables.exec = Jvm.exec) {pc pc' : Nat} {Ls : Array Slot} {b : Addr} {rest : List Value} {o : Int} (hd : decode c.code pc = .ok (.ifnonnull o, 3)) (ho : 0 ≤ (pc : Int) + o) (hp : ((pc : Int) + o).toNat = pc') (k : own_G p.tables e below P T (mkF m pc' Ls (rest))) : own_G p.tables e below P T (mkF m pc Ls (.ref b :: rest)) := by
  exact own_go (fun t q => XS.ifnonnullYes X.here hx rfl (pc0 := pc) (pc' := pc') rfl hd rfl ho hp q) k
theorem own_ifNo (X : Stand p l e R s m args below meth c T locs cells slots) (hx : p.tables.exec = Jvm.exec) {pc pc' : Nat} {Ls : Array Slot} {cd : ClassFile.Cond} {o : Int} {x : Int32} {rest : List Value} (hd : decode c.code pc = .ok (.ifCond cd o, 3)) (hc : if_icmp.holds cd x 0 = false) (hp : pc + 3 = pc') (k : own_G p.tables e below P T (mkF m pc' Ls (rest))) : own_G p.tables e below P T (mkF m pc Ls (.int x :: rest)) := by
  subst hp; exact own_go (fun t q => XS.ifNo X.here hx rfl hd rfl ((if0 _ _).trans hc) q) k
theorem own_icmpNo (X : Stand p l e R s m args below meth c T locs cells slots) (hx : p.tables.exec = Jvm.exec) {pc pc' : Nat} {Ls : Array Slot} {cd : ClassFile.Cond} {o : Int} {x y : Int32} {rest : List Value} (hd : decode c.code pc = .ok (.if_icmp cd o, 3)) (hc : if_icmp.holds cd x y = false) (hp : pc + 3 = pc') (k : own_G p.tables e below P T (mkF m pc' Ls (rest))) : own_G p.tables e below P T (mkF m pc Ls (.int y :: .int x :: rest)) := by
  subst hp; exact own_go (fun t q => XS.icmpNo X.here hx rfl hd rfl hc q) k
theorem own_ifnullNo (X : Stand p l e R s m args below meth c T locs cells slots) (hx : p.tables.exec = Jvm.exec) {pc pc' : Nat} {Ls : Array Slot} {o : Int} {b : Addr} {rest : List Value} (hd : decode c.code pc = .ok (.ifnull o, 3)) (hp : pc + 3 = pc') (k : own_G p.tables e below P T (mkF m pc' Ls (rest))) : own_G p.tables e below P T (mkF m pc Ls (.ref b :: rest)) := by
  subst hp; exact own_go (fun t q => XS.ifnullNo X.here hx rfl hd rfl q) k
theorem own_ifnonnullNo (X : Stand p l e R s m args below meth c T locs cells slots) (hx : p.tables.exec = Jvm.exec) {pc pc' : Nat} {Ls : Array Slot} {o : Int} {rest : List Value} (hd : decode c.code pc = .ok (.ifnonnull o, 3)) (hp : pc + 3 = pc') (k : own_G p.tables e below P T (mkF m pc' Ls (rest))) : own_G p.tables e below P T (mkF m pc Ls (.null :: rest)) := by
  subst hp; exact own_go (fun t q => XS.ifnonnullNo X.here hx rfl hd rfl q) k
theorem own_acmp (X : Stand p l e R s m args below meth c T locs cells slots) (hx : p.tables.exec = Jvm.exec) {pc pc' : Nat} {Ls : Array Slot} {cd : ACond} {x y : Value} {rest : List Value} {o : Int} (same : Bool) (hd : decode c.code pc = .ok (.if_acmp cd o, 3)) (h1 : x.isRef = true) (h2 : y.isRef = true) (hq : decide (x = y) = same) (ho : 0 ≤ (pc : Int) + o) (hp : pc' = if acV cd same = true then ((pc : Int) + o).toNat else pc + 3) (k : own_G p.tables e below P T (mkF m pc' Ls rest)) : own_G p.tables e below P T (mkF m pc Ls (y :: x :: rest)) := by
  exact own_go (fun t q => Jvm.RoadKit.acmp (g := mkF m pc Ls (y :: x :: rest)) X hx rfl h1 h2 (pc0 := pc) (pc' := pc') rfl hd rfl hq ho hp q) k
theorem own_ldcI (X : Stand p l e R s m args below meth c T locs cells slots) (hx : p.tables.exec = Jvm.exec) {pc pc' : Nat} {Ls : Array Slot} (hZ : Z.Warmed39 s.vm) {own : String} {idx : Nat} {z : Int32} {st : List Value} (hown : s.vm.findClass own = some m.cls) (w : (Jvm.Cond.constant own idx z).before a0 Z = true) (hd : decode c.code pc = .ok (.ldc idx, 2)) (hp : pc + 2 = pc') (k : own_G p.tables e below P T (mkF m pc' Ls (.int z :: st))) : own_G p.tables e below P T (mkF m pc Ls st) := by
  subst hp; exact own_go (X.ldcInt hx hown (mvT hZ w) (g := mkF m pc Ls st) rfl hd) k
theorem own_ldcwI (X : Stand p l e R s m args below meth c T locs cells slots) (hx : p.tables.exec = Jvm.exec) {pc pc' : Nat} {Ls : Array Slot} (hZ : Z.Warmed39 s.vm) {own : String} {idx : Nat} {z : Int32} {st : List Value} (hown : s.vm.findClass own = some m.cls) (w : (Jvm.Cond.constant own idx z).before a0 Z = true) (hd : decode c.code pc = .ok (.ldc_w idx, 3)) (hp : pc + 3 = pc') (k : own_G p.tables e below P T (mkF m pc' Ls (.int z :: st))) : own_G p.tables e below P T (mkF m pc Ls st) := by
  subst hp; exact own_go (X.ldcwInt hx hown (mvT hZ w) (g := mkF m pc Ls st) rfl hd) k
theorem own_ldc2J (X : Stand p l e R s m args below meth c T locs cells slots) (hx : p.tables.exec = Jvm.exec) {pc pc' : Nat} {Ls : Array Slot} (hZ : Z.Warmed39 s.vm) {own : String} {idx : Nat} {z : Int64} {st : List Value} (hown : s.vm.findClass own = some m.cls) (w : (Jvm.Cond.constantLong own idx z).before a0 Z = true) (hd : decode c.code pc = .ok (.ldc2_w idx, 3)) (hp : pc + 3 = pc') (k : own_G p.tables e below P T (mkF m pc' Ls (.long z :: st))) : own_G p.tables e below P T (mkF m pc Ls st) := by
  subst hp; exact own_go (X.ldc2Long hx hown (mvT hZ w) (g := mkF m pc Ls st) rfl hd) k
theorem own_getF (X : Stand p l e R s m args below meth c T locs cells slots) (hx : p.tables.exec = Jvm.exec) {pc pc' : Nat} {Ls : Array Slot} (hZ : Z.Warmed39 s.vm) {own R0 O n d host : String} {idx : Nat} {a : Addr} {v : Value} {rest : List Value} (hown : s.vm.findClass own = some m.cls) (w : (Cond.fieldLink own idx R0 n d).before a0 Z = true ∨ (Cond.fieldLinkNest own idx R0 n d host).before a0 Z = true) (via : Via Z R0 O n d) (eT : T.heap = h) (F : Fld Z h a O n d v) (hd : decode c.code pc = .ok (.getfield idx, 3)) (hp : pc + 3 = pc') (k : ∀ T', Stand p l e R s m args below meth c T' locs cells slots → T'.heap = h → own_G p.tables e below P T' (mkF m pc' Ls (v :: rest))) : own_G p.tables e below P T (mkF m pc Ls (.ref a :: rest)) := by
  subst hp; obtain ⟨T', X', e', st⟩ := getF X hx hZ hown w via eT F (g := mkF m pc Ls (.ref a :: rest)) rfl rfl hd; exact own_go st (k T' X' e')
theorem own_getS (X : Stand p l e R s m args below meth c T locs cells slots) (hx : p.tables.exec = Jvm.exec) {pc pc' : Nat} {Ls : Array Slot} (hZ : Z.Warmed39 s.vm) {own R0 O n d host : String} {idx : Nat} {v : Value} {st : List Value} (hown : s.vm.findClass own = some m.cls) (w : (Cond.fieldLink own idx R0 n d).before a0 Z = true ∨ (Cond.fieldLinkNest own idx R0 n d host).before a0 Z = true) (via : Via Z R0 O n d) (eT : T.heap = h) (F : Sta Z h O n d v) (hd : decode c.code pc = .ok (.getstatic idx, 3)) (hp : pc + 3 = pc') (k : ∀ T', Stand p l e R s m args below meth c T' locs cells slots → T'.heap = h → own_G p.tables e below P T' (mkF m pc' Ls (v :: st))) : own_G p.tables e below P T (mkF m pc Ls st) := by
  subst hp; obtain ⟨T', X', e', stp⟩ := getS2 X hx hZ hown w via eT F (g := mkF m pc Ls st) rfl hd; exact own_go stp (k T' X' e')
theorem own_len (X : Stand p l e R s m args below meth c T locs cells slots) (hx : p.tables.exec = Jvm.exec) {pc pc' : Nat} {Ls : Array Slot} (hZ : Z.Warmed39 s.vm) {a : Addr} {cl : Cell} {ty : FieldType} {z : Int32} {rest : List Value} (eT : T.heap = h) (A : Arr Z h a cl ty) (S : cl.slots.size = z.toNatClampNeg) (M : ¬ z < 0) (hd : decode c.code pc = .ok (.arraylength, 1)) (hp : pc + 1 = pc') (k : own_G p.tables e below P T (mkF m pc' Ls (.int z :: rest))) : own_G p.tables e below P T (mkF m pc Ls (.ref a :: rest)) := by
  subst hp; exact own_go (fun t q => X.arraylength hx (by rw [eT]; exact A.1) (State.isArrayOf_alike hZ.alike A.2.1) (g := mkF m pc Ls (.ref a :: rest)) rfl rfl hd _ (by rw [len_of S M]; exact q)) k
theorem own_iaload (X : Stand p l e R s m args below meth c T locs cells slots) (hx : p.tables.exec = Jvm.exec) {pc pc' : Nat} {Ls : Array Slot} (hZ : Z.Warmed39 s.vm) {a : Addr} {cl : Cell} {j : Int32} {v : Int32} {rest : List Value} (eT : T.heap = h) (A : Arr Z h a cl .int) (hj : ¬ (j < 0 ∨ cl.slots.size ≤ j.toNatClampNeg)) (hv : cl.slots[j.toNatClampNeg]? = some (.int v)) (hd : decode c.code pc = .ok (.iaload, 1)) (hp : pc + 1 = pc') (k : own_G p.tables e below P T (mkF m pc' Ls ((.int v) :: rest))) : own_G p.tables e below P T (mkF m pc Ls (.int j :: .ref a :: rest)) := by
  subst hp; exact own_go (X.iaload hx (j := j) (v := (.int v)) (by rw [eT]; exact A.1) (State.isArrayOf_alike hZ.alike A.2.1) A.2.2 hj hv (g := mkF m pc Ls (.int j :: .ref a :: rest)) rfl rfl hd) k
theorem own_laload (X : Stand p l e R s m args below meth c T locs cells slots) (hx : p.tables.exec = Jvm.exec) {pc pc' : Nat} {Ls : Array Slot} (hZ : Z.Warmed39 s.vm) {a : Addr} {cl : Cell} {j : Int32} {v : Int64} {rest : List Value} (eT : T.heap = h) (A : Arr Z h a cl .long) (hj : ¬ (j < 0 ∨ cl.slots.size ≤ j.toNatClampNeg)) (hv : cl.slots[j.toNatClampNeg]? = some (.long v)) (hd : decode c.code pc = .ok (.laload, 1)) (hp : pc + 1 = pc') (k : own_G p.tables e below P T (mkF m pc' Ls ((.long v) :: rest))) : own_G p.tables e below P T (mkF m pc Ls (.int j :: .ref a :: rest)) := by
  subst hp; exact own_go (X.laload hx (j := j) (v := (.long v)) (by rw [eT]; exact A.1) (State.isArrayOf_alike hZ.alike A.2.1) A.2.2 hj hv (g := mkF m pc Ls (.int j :: .ref a :: rest)) rfl rfl hd) k
theorem own_baload (X : Stand p l e R s m args below meth c T locs cells slots) (hx : p.tables.exec = Jvm.exec) {pc pc' : Nat} {Ls : Array Slot} (hZ : Z.Warmed39 s.vm) {a : Addr} {cl : Cell} {j : Int32} {v : Int32} {rest : List Value} (eT : T.heap = h) (A : Arr Z h a cl .byte) (hj : ¬ (j < 0 ∨ cl.slots.size ≤ j.toNatClampNeg)) (hv : cl.slots[j.toNatClampNeg]? = some (.int v)) (hd : decode c.code pc = .ok (.baload, 1)) (hp : pc + 1 = pc') (k : own_G p.tables e below P T (mkF m pc' Ls ((.int v) :: rest))) : own_G p.tables e below P T (mkF m pc Ls (.int j :: .ref a :: rest)) := by
  subst hp; exact own_go (X.baloadBytes hx (j := j) (v := (.int v)) (by rw [eT]; exact A.1) (State.isArrayOf_alike hZ.alike A.2.1) A.2.2 hj hv (g := mkF m pc Ls (.int j :: .ref a :: rest)) rfl rfl hd) k
theorem own_caload (X : Stand p l e R s m args below meth c T locs cells slots) (hx : p.tables.exec = Jvm.exec) {pc pc' : Nat} {Ls : Array Slot} (hZ : Z.Warmed39 s.vm) {a : Addr} {cl : Cell} {j : Int32} {v : Int32} {rest : List Value} (eT : T.heap = h) (A : Arr Z h a cl .char) (hj : ¬ (j < 0 ∨ cl.slots.size ≤ j.toNatClampNeg)) (hv : cl.slots[j.toNatClampNeg]? = some (.int v)) (hd : decode c.code pc = .ok (.caload, 1)) (hp : pc + 1 = pc') (k : own_G p.tables e below P T (mkF m pc' Ls ((.int v) :: rest))) : own_G p.tables e below P T (mkF m pc Ls (.int j :: .ref a :: rest)) := by
  subst hp; exact own_go (X.caload hx (j := j) (v := (.int v)) (by rw [eT]; exact A.1) (State.isArrayOf_alike hZ.alike A.2.1) A.2.2 hj hv (g := mkF m pc Ls (.int j :: .ref a :: rest)) rfl rfl hd) k
theorem own_aaload (X : Stand p l e R s m args below meth c T locs cells slots) (hx : p.tables.exec = Jvm.exec) {pc pc' : Nat} {Ls : Array Slot} (hZ : Z.Warmed39 s.vm) {a : Addr} {cl : Cell} {ty : FieldType} {j : Int32} {v : Value} {rest : List Value} (eT : T.heap = h) (A : Arr Z h a cl ty) (hty : ty.isReference = true) (hj : ¬ (j < 0 ∨ cl.slots.size ≤ j.toNatClampNeg)) (hv : cl.slots[j.toNatClampNeg]? = some v) (hd : decode c.code pc = .ok (.aaload, 1)) (hp : pc + 1 = pc') (k : own_G p.tables e below P T (mkF m pc' Ls (v :: rest))) : own_G p.tables e below P T (mkF m pc Ls (.int j :: .ref a :: rest)) := by
  subst hp; exact own_go (X.aaload hx (j := j) (v := v) (by rw [eT]; exact A.1) (State.isArrayOf_alike hZ.alike A.2.1) hty A.2.2 hj hv (g := mkF m pc Ls (.int j :: .ref a :: rest)) rfl rfl hd) k
theorem own_stI (X : Stand p l e R s m args below meth c T locs cells slots) (hx : p.tables.exec = Jvm.exec) {pc pc' : Nat} {Ls : Array Slot} (hZ : Z.Warmed39 s.vm) {a : Addr} {cl : Cell} {j : Int32} {x : Int32} {rest : List Value} (eT : T.heap = h) (A : Arr Z h a cl .int) (hj : ¬ (j < 0 ∨ cl.slots.size ≤ j.toNatClampNeg)) (hd : decode c.code pc = .ok (.iastore, 1)) (hp : pc + 1 = pc') (k : ∀ T' h', Stand p l e R s m args below meth c T' (locs ++ [⟨a, j.toNatClampNeg⟩]) cells slots → T'.heap = h' → Wr h h' a j.toNatClampNeg (.int x) → own_G p.tables e below P T' (mkF m pc' Ls rest)) : own_G p.tables e below P T (mkF m pc Ls (.int x :: .int j :: .ref a :: rest)) := by
  subst hp; obtain ⟨T', h', X', e', W', st⟩ := stI X hx hZ eT A (j := j) hj (g := mkF m pc Ls (.int x :: .int j :: .ref a :: rest)) rfl rfl hd; exact own_go st (k T' h' X' e' W')
theorem own_stJ (X : Stand p l e R s m args below meth c T locs cells slots) (hx : p.tables.exec = Jvm.exec) {pc pc' : Nat} {Ls : Array Slot} (hZ : Z.Warmed39 s.vm) {a : Addr} {cl : Cell} {j : Int32} {x : Int64} {rest : List Value} (eT : T.heap = h) (A : Arr Z h a cl .long) (hj : ¬ (j < 0 ∨ cl.slots.size ≤ j.toNatClampNeg)) (hd : decode c.code pc = .ok (.lastore, 1)) (hp : pc + 1 = pc') (k : ∀ T' h', Stand p l e R s m args below meth c T' (locs ++ [⟨a, j.toNatClampNeg⟩]) cells slots → T'.heap = h' → Wr h h' a j.toNatClampNeg (.long x) → own_G p.tables e below P T' (mkF m pc' Ls rest)) : own_G p.tables e below P T (mkF m pc Ls (.long x :: .int j :: .ref a :: rest)) := by
  subst hp; obtain ⟨T', h', X', e', W', st⟩ := stJ X hx hZ eT A (j := j) hj (g := mkF m pc Ls (.long x :: .int j :: .ref a :: rest)) rfl rfl hd; exact own_go st (k T' h' X' e' W')
theorem own_stB (X : Stand p l e R s m args below meth c T locs cells slots) (hx : p.tables.exec = Jvm.exec) {pc pc' : Nat} {Ls : Array Slot} (hZ : Z.Warmed39 s.vm) {a : Addr} {cl : Cell} {j : Int32} {x : Int32} {rest : List Value} (eT : T.heap = h) (A : Arr Z h a cl .byte) (hj : ¬ (j < 0 ∨ cl.slots.size ≤ j.toNatClampNeg)) (hd : decode c.code pc = .ok (.bastore, 1)) (hp : pc + 1 = pc') (k : ∀ T' h', Stand p l e R s m args below meth c T' (locs ++ [⟨a, j.toNatClampNeg⟩]) cells slots → T'.heap = h' → Wr h h' a j.toNatClampNeg (.int (nar .byte x)) → own_G p.tables e below P T' (mkF m pc' Ls rest)) : own_G p.tables e below P T (mkF m pc Ls (.int x :: .int j :: .ref a :: rest)) := by
  subst hp; obtain ⟨T', h', X', e', W', st⟩ := stB X hx hZ eT A (j := j) hj (g := mkF m pc Ls (.int x :: .int j :: .ref a :: rest)) rfl rfl hd; exact own_go st (k T' h' X' e' W')
theorem own_stC (X : Stand p l e R s m args below meth c T locs cells slots) (hx : p.tables.exec = Jvm.exec) {pc pc' : Nat} {Ls : Array Slot} (hZ : Z.Warmed39 s.vm) {a : Addr} {cl : Cell} {j : Int32} {x : Int32} {rest : List Value} (eT : T.heap = h) (A : Arr Z h a cl .char) (hj : ¬ (j < 0 ∨ cl.slots.size ≤ j.toNatClampNeg)) (hd : decode c.code pc = .ok (.castore, 1)) (hp : pc + 1 = pc') (k : ∀ T' h', Stand p l e R s m args below meth c T' (locs ++ [⟨a, j.toNatClampNeg⟩]) cells slots → T'.heap = h' → Wr h h' a j.toNatClampNeg (.int (nar .char x)) → own_G p.tables e below P T' (mkF m pc' Ls rest)) : own_G p.tables e below P T (mkF m pc Ls (.int x :: .int j :: .ref a :: rest)) := by
  subst hp; obtain ⟨T', h', X', e', W', st⟩ := stC X hx hZ eT A (j := j) hj (g := mkF m pc Ls (.int x :: .int j :: .ref a :: rest)) rfl rfl hd; exact own_go st (k T' h' X' e' W')
theorem own_stR (X : Stand p l e R s m args below meth c T locs cells slots) (hx : p.tables.exec = Jvm.exec) {pc pc' : Nat} {Ls : Array Slot} (hZ : Z.Warmed39 s.vm) {a : Addr} {cl : Cell} {j : Int32} {x : Value} {ty : FieldType} {rest : List Value} (eT : T.heap = h) (A : Arr Z h a cl ty) (hj : ¬ (j < 0 ∨ cl.slots.size ≤ j.toNatClampNeg)) (hty : ty.isReference = true) (F : Sto Z h a x) (hd : decode c.code pc = .ok (.aastore, 1)) (hp : pc + 1 = pc') (k : ∀ T' h', Stand p l e R s m args below meth c T' (locs ++ [⟨a, j.toNatClampNeg⟩]) cells slots → T'.heap = h' → Wr h h' a j.toNatClampNeg x → own_G p.tables e below P T' (mkF m pc' Ls rest)) : own_G p.tables e below P T (mkF m pc Ls (x :: .int j :: .ref a :: rest)) := by
  subst hp; obtain ⟨T', h', X', e', W', st⟩ := stR X hx hZ eT A (j := j) hj hty F (g := mkF m pc Ls (x :: .int j :: .ref a :: rest)) rfl rfl hd; exact own_go st (k T' h' X' e' W')
theorem own_putF (X : Stand p l e R s m args below meth c T locs cells slots) (hx : p.tables.exec = Jvm.exec) {pc pc' : Nat} {Ls : Array Slot} (hZ : Z.Warmed39 s.vm) {own R0 O n d host C : String} {idx kk : Nat} {ty : FieldType} {a : Addr} {v old : Value} {rest : List Value} (hown : s.vm.findClass own = some m.cls) (w : (Cond.fieldLink own idx R0 n d).before a0 Z = true ∨ (Cond.fieldLinkNest own idx R0 n d host).before a0 Z = true) (via : Via Z R0 O n d) (eT : T.heap = h) (F : Fld Z h a O n d old) (E : Exa Z h a C) (L : (Cond.lays C O n d).before a0 Z = true ∨ ((Cond.laysFinal C O n d).before a0 Z = true ∧ own = O ∧ meth.name = "<init>")) (wi : (Cond.instantiable C kk).before a0 Z = true) (hty : parseFieldDescriptor d = some ty) (hn : narrow ty v = v) (hf : fits ty v = true) (hd : decode c.code pc = .ok (.putfield idx, 3)) (hp : pc + 3 = pc') (k : ∀ T' h', Stand p l e R s m args below meth c T' (locs ++ [⟨a, Jvm.RoadKit.slotOf Z O n d⟩]) cells slots → T'.heap = h' → Wr h h' a (Jvm.RoadKit.slotOf Z O n d) v → own_G p.tables e below P T' (mkF m pc' Ls rest)) : own_G p.tables e below P T (mkF m pc Ls (v :: .ref a :: rest)) := by
  subst hp; obtain ⟨T', h', X', e', W', st⟩ := putF X hx hZ hown w via eT F E L wi hty hn hf (g := mkF m pc Ls (v :: .ref a :: rest)) rfl rfl hd; exact own_go st (k T' h' X' e' W')
theorem own_putFN (X : Stand p l e R s m args below meth c T locs cells slots) (hx : p.tables.exec = Jvm.exec) {pc pc' : Nat} {Ls : Array Slot} (hZ : Z.Warmed39 s.vm) {own R0 O n d C : String} {idx kk : Nat} {ty : FieldType} {a : Addr} {v old : Value} (v' : Value) {rest : List Value} (hown : s.vm.findClass own = some m.cls) (w : (Cond.fieldLink own idx R0 n d).before a0 Z = true) (via : Via Z R0 O n d) (eT : T.heap = h) (F : Fld Z h a O n d old) (E : Exa Z h a C) (L : (Cond.lays C O n d).before a0 Z = true ∨ ((Cond.laysFinal C O n d).before a0 Z = true ∧ own = O ∧ meth.name = "<init>")) (wi : (Cond.instantiable C kk).before a0 Z = true) (hty : parseFieldDescriptor d = some ty) (hn : narrow ty v = v') (hf : fits ty v' = true) (hd : decode c.code pc = .ok (.putfield idx, 3)) (hp : pc + 3 = pc') (k : ∀ T' h', Stand p l e R s m args below meth c T' (locs ++ [⟨a, Jvm.RoadKit.slotOf Z O n d⟩]) cells slots → T'.heap = h' → Wr h h' a (Jvm.RoadKit.slotOf Z O n d) v' → own_G p.tables e below P T' (mkF m pc' Ls rest)) : own_G p.tables e below P T (mkF m pc Ls (v :: .ref a :: rest)) := by
  subst hp; obtain ⟨T', h', X', e', W', st⟩ := putFN X hx hZ hown w via eT F E L wi hty hn hf (g := mkF m pc Ls (v :: .ref a :: rest)) rfl rfl hd; exact own_go st (k T' h' X' e' W')
theorem own_new (X : Stand p l e R s m args below meth c T locs cells slots) (hx : p.tables.exec = Jvm.exec) {pc pc' : Nat} {Ls : Array Slot} (hZ : Z.Warmed39 s.vm) {own C : String} {idx n : Nat} {st : List Value} (hown : s.vm.findClass own = some m.cls) (w : (Cond.classLink own idx C).before a0 Z = true) (wi : (Cond.instantiable C n).before a0 Z = true) (wz : (Cond.initialized C).before a0 Z = true) (eT : T.heap = h) (hd : decode c.code pc = .ok (.new idx, 3)) (hc : cells + 1 ≤ R.cells) (hl : slots + n ≤ R.slots) (hp : pc + 3 = pc') (k : ∀ T' h' b, b = h.size → Stand p l e R s m args below meth c T' locs (cells + 1) (slots + n) → T'.heap = h' → Ext h h' → Exa Z h' b C → (∀ {O nm d : String} {ty : FieldType}, Laid Z a0 C O nm d → parseFieldDescriptor d = some ty → Fld Z h' b O nm d (defaultValue ty)) → own_G p.tables e below P T' (mkF m pc' Ls (.ref b :: st))) : own_G p.tables e below P T (mkF m pc Ls st) := by
  subst hp; obtain ⟨T', h', X', e', E', A', D', -, stp⟩ := newO X hx hZ hown w wi wz eT (g := mkF m pc Ls st) rfl hd hc hl; exact own_go stp (k T' h' _ rfl X' e' E' A' D')
theorem own_newP (X : Stand p l e R s m args below meth c T locs cells slots) (hx : p.tables.exec = Jvm.exec) {pc pc' : Nat} {Ls : Array Slot} (hZ : Z.Warmed39 s.vm) {aty : ArrayType} {z : Int32} {rest : List Value} (w : (Cond.arrayClass (newarray.typeOf aty)).before a0 Z = true) (eT : T.heap = h) (hd : decode c.code pc = .ok (.newarray aty, 2)) (hn : ¬ z < 0) (cap : Nat) (hcap : z.toNatClampNeg ≤ cap) (hb : cap * 8 ≤ 536870912) (hc : cells + 1 ≤ R.cells) (hl : slots + cap ≤ R.slots) (hp : pc + 2 = pc') (k : ∀ T' h' cA b, b = h.size → Stand p l e R s m args below meth c T' locs (cells + 1) (slots + cap) → T'.heap = h' → Ext h h' → Arr Z h' b (newA cA (newarray.typeOf aty) z) (newarray.typeOf aty) → own_G p.tables e below P T' (mkF m pc' Ls (.ref b :: rest))) : own_G p.tables e below P T (mkF m pc Ls (.int z :: rest)) := by
  subst hp; obtain ⟨T', h', cA, X', e', E', A', stp⟩ := newP X hx hZ w eT (g := mkF m pc Ls (.int z :: rest)) rfl hd rfl hn hcap hb hc hl; exact own_go stp (k T' h' cA _ rfl X' e' E' A')
theorem own_newR (X : Stand p l e R s m args below meth c T locs cells slots) (hx : p.tables.exec = Jvm.exec) {pc pc' : Nat} {Ls : Array Slot} (hZ : Z.Warmed39 s.vm) {own C : String} {idx : Nat} {z : Int32} {rest : List Value} (hown : s.vm.findClass own = some m.cls) (w1 : (Cond.classLink own idx C).before a0 Z = true) (w2 : (Cond.arrayOver (.object C)).before a0 Z = true) (eT : T.heap = h) (hd : decode c.code pc = .ok (.anewarray idx, 3)) (hn : ¬ z < 0) (cap : Nat) (hcap : z.toNatClampNeg ≤ cap) (hb : cap * 8 ≤ 536870912) (hc : cells + 1 ≤ R.cells) (hl : slots + cap ≤ R.slots) (hp : pc + 3 = pc') (k : ∀ T' h' cA b, b = h.size → Stand p l e R s m args below meth c T' locs (cells + 1) (slots + cap) → T'.heap = h' → Ext h h' → Arr Z h' b (newA cA (.object C) z) (.object C) → Ovr Z cA C → own_G p.tables e below P T' (mkF m pc' Ls (.ref b :: rest))) : own_G p.tables e below P T (mkF m pc Ls (.int z :: rest)) := by
  subst hp; obtain ⟨T', h', cA, X', e', E', A', O', stp⟩ := newR X hx hZ hown w1 w2 eT (g := mkF m pc Ls (.int z :: rest)) rfl hd rfl hn hcap hb hc hl; exact own_go stp (k T' h' cA _ rfl X' e' E' A' O')
theorem own_initO (X : Stand p l e R s m args below meth c T locs cells slots) (hx : p.tables.exec = Jvm.exec) {pc pc' : Nat} {Ls : Array Slot} (hZ : Z.Warmed39 s.vm) {own : String} {idx : Nat} {a : Addr} {rest : List Value} (hown : s.vm.findClass own = some m.cls) (w1 : (Cond.methodLink own idx Lib.objectInit).before a0 Z = true) (w2 : (Cond.instanceMethod Lib.objectInit).before a0 Z = true) (w3 : (Cond.code Lib.objectInit ⟨#[0xb1]⟩ 1 none).before a0 Z = true) (eT : T.heap = h) (hsz : Ls.size = c.maxLocals) (hd : decode c.code pc = .ok (.invokespecial idx, 3)) (hf : 1 ≤ R.frames) (W : Nat) (hW : 2 * 0 + (rest.map fun v => v.category).sum ≤ W) (hl : W + 12 ≤ R.locals) (hp : pc + 3 = pc') (k : ∀ T', Stand p l e R s m args below meth c T' locs cells slots → T'.heap = h → own_G p.tables e below P T' (mkF m pc' Ls rest)) : own_G p.tables e below P T (mkF m pc Ls (.ref a :: rest)) := by
  subst hp; obtain ⟨T', X', e', st⟩ := initO X hx hZ hown w1 w2 w3 eT (g := mkF m pc Ls (.ref a :: rest)) rfl hsz rfl hd hf hW hl; exact own_go st (k T' X' e')
theorem own_callS (X : Stand p l e R s m args below meth c T locs cells slots) (hx : p.tables.exec = Jvm.exec) {pc pc' : Nat} {Ls : Array Slot} (hZ : Z.Warmed39 s.vm) {own : String} {idx : Nat} {y : MethodName} {bytes : ByteArray} {maxL : Nat} {ret : Option FieldType} {rm : Room} {as' : Array Value} {Q : Option Value → Heap → List Loc → Prop} (hown : s.vm.findClass own = some m.cls) (w1 : (Cond.methodLink own idx y).before a0 Z = true) (w2 : (Cond.static y).before a0 Z = true) (w3 : (Cond.initialized y.cls).before a0 Z = true) (w4 : (Cond.code y bytes maxL ret).before a0 Z = true) (hy : y.cls ≠ "java/lang/invoke/MethodHandle" ∧ y.cls ≠ "java/lang/invoke/VarHandle") (hM : MetFree l y (head1 [Cond.code y bytes maxL ret] rm) (fun a U => a = as' ∧ Z.Warmed39 U.vm ∧ U.heap = h) (fun _ _ _ _ _ => True) (fun _ U o U' => ∃ v L, o = .returned v ∧ Q v U'.heap L ∧ FrameEnd U o U' L rm.cells rm.slots)) (eT : T.heap = h) (W : Nat) (hf : rm.frames + 1 ≤ R.frames) (hl : W + (maxL + 11) + rm.locals ≤ R.locals) (hc : cells + rm.cells ≤ R.cells) (hsl : slots + rm.slots ≤ R.slots) {st : List Value} (argsL rest : List Value) (hsz : Ls.size = c.maxLocals) (hlen : ∀ sig, parseMethodDescriptor y.desc = some sig → argsL.length = sig.parameters.length) (has : argsL.toArray = as') (hst : st = argsL.reverse ++ rest) (hW : 2 * 0 + (rest.map fun v => v.category).sum ≤ W) (hd : decode c.code pc = .ok (.invokestatic idx, 3)) (hp : pc + 3 = pc') (k : ∀ v T' L, Stand p l e R s m args below meth c T' (locs ++ L) (cells + rm.cells) (slots + rm.slots) → Q v T'.heap L → own_G p.tables e below P T' (mkF m pc' Ls (v.toList ++ rest))) : own_G p.tables e below P T (mkF m pc Ls st) := by
  subst hp
  obtain ⟨v, vm, ⟨T', L', k', n'⟩, -, X', ⟨L, hQ, l', y', z'⟩, stp⟩ := Jvm.LawKit.callS X hx (y := y) hown (mvT hZ w1) (mvT hZ w2) (mvT hZ w3) (mvT hZ w4) hy (backOf (W := W) hM hZ w4 w3 hf hl) (g := mkF m pc Ls st) rfl hsz (argsL := argsL) (rest := rest) hlen hst hW hd (fun _ _ => ⟨has, eT, hc, hsl⟩)
  dsimp only [Pt.U, Pt.locs, Pt.cells, Pt.slots] at X' l' y' z' stp hQ
  subst l' y' z'
  exact own_go stp (k v T' L X' hQ)
theorem own_callV (X : Stand p l e R s m args below meth c T locs cells slots) (hx : p.tables.exec = Jvm.exec) {pc pc' : Nat} {Ls : Array Slot} (hZ : Z.Warmed39 s.vm) {own C : String} {idx : Nat} {y : MethodName} {bytes : ByteArray} {maxL : Nat} {ret : Option FieldType} {rm : Room} {as' : Array Value} {Q : Option Value → Heap → List Loc → Prop} (hown : s.vm.findClass own = some m.cls) (w1 : (Cond.methodLink own idx y).before a0 Z = true) (w2 : (Cond.instanceMethod y).before a0 Z = true) (w3 : (Cond.selects C y y).before a0 Z = true) (w4 : (Cond.code y bytes maxL ret).before a0 Z = true) (w5 : (Cond.initialized y.cls).before a0 Z = true) (hy : y.cls ≠ "java/lang/invoke/MethodHandle" ∧ y.cls ≠ "java/lang/invoke/VarHandle") (hM : MetFree l y (head1 [Cond.code y bytes maxL ret] rm) (fun a U => a = as' ∧ Z.Warmed39 U.vm ∧ U.heap = h) (fun _ _ _ _ _ => True) (fun _ U o U' => ∃ v L, o = .returned v ∧ Q v U'.heap L ∧ FrameEnd U o U' L rm.cells rm.slots)) (eT : T.heap = h) {b : Addr} (E : Exa Z h b C) (W : Nat) (hf : rm.frames + 1 ≤ R.frames) (hl : W + (maxL + 11) + rm.locals ≤ R.locals) (hc : cells + rm.cells ≤ R.cells) (hsl : slots + rm.slots ≤ R.slots) {st : List Value} (argsL rest : List Value) (hsz : Ls.size = c.maxLocals) (hlen : ∀ sig, parseMethodDescriptor y.desc = some sig → argsL.length = sig.parameters.length) (has : (Value.ref b :: argsL).toArray = as') (hst : st = argsL.reverse ++ .ref b :: rest) (hW : 2 * 0 + (rest.map fun v => v.category).sum ≤ W) (hd : decode c.code pc = .ok (.invokevirtual idx, 3)) (hp : pc + 3 = pc') (k : ∀ v T' L, Stand p l e R s m args below meth c T' (locs ++ L) (cells + rm.cells) (slots + rm.slots) → Q v T'.heap L → own_G p.tables e below P T' (mkF m pc' Ls (v.toList ++ rest))) : own_G p.tables e below P T (mkF m pc Ls st) := by
  subst hp
  obtain ⟨cell, kc, q1, q2, q3, q4, -⟩ := E
  obtain ⟨v, vm, ⟨T', L', k', n'⟩, -, X', ⟨L, hQ, l', y', z'⟩, stp⟩ := Jvm.LawKit.callV X hx (y := y) (C := C) hown (mvT hZ w1) (mvT hZ w2) (mvT hZ w3) (mvT hZ w4) hy (backOf (W := W) hM hZ w4 w5 hf hl) (b := b) (cellB := cell) (by rw [eT]; exact q1) q4 (by rw [hZ.alike.findClass]; exact q2) (g := mkF m pc Ls st) rfl hsz (argsL := argsL) (rest := rest) hlen hst hW hd (fun _ _ => ⟨has, eT, hc, hsl⟩)
  dsimp only [Pt.U, Pt.locs, Pt.cells, Pt.slots] at X' l' y' z' stp hQ
  subst l' y' z'
  exact own_go stp (k v T' L X' hQ)
theorem own_callI (X : Stand p l e R s m args below meth c T locs cells slots) (hx : p.tables.exec = Jvm.exec) {pc pc' : Nat} {Ls : Array Slot} (hZ : Z.Warmed39 s.vm) {own : String} {idx : Nat} {y : MethodName} {bytes : ByteArray} {maxL : Nat} {rm : Room} {as' : Array Value} {Q : Option Value → Heap → List Loc → Prop} (hy1 : y.name = "<init>") (hown : s.vm.findClass own = some m.cls) (w1 : (Cond.methodLink own idx y).before a0 Z = true) (w2 : (Cond.instanceMethod y).before a0 Z = true) (w4 : (Cond.code y bytes maxL none).before a0 Z = true) (w5 : (Cond.initialized y.cls).before a0 Z = true) (hy : y.cls ≠ "java/lang/invoke/MethodHandle" ∧ y.cls ≠ "java/lang/invoke/VarHandle") (hM : MetFree l y (head1 [Cond.code y bytes maxL none] rm) (fun a U => a = as' ∧ Z.Warmed39 U.vm ∧ U.heap = h) (fun _ _ _ _ _ => True) (fun _ U o U' => ∃ v L, o = .returned v ∧ Q v U'.heap L ∧ FrameEnd U o U' L rm.cells rm.slots)) (eT : T.heap = h) {b : Addr} (W : Nat) (hf : rm.frames + 1 ≤ R.frames) (hl : W + (maxL + 11) + rm.locals ≤ R.locals) (hc : cells + rm.cells ≤ R.cells) (hsl : slots + rm.slots ≤ R.slots) {st : List Value} (argsL rest : List Value) (hsz : Ls.size = c.maxLocals) (hlen : ∀ sig, parseMethodDescriptor y.desc = some sig → argsL.length = sig.parameters.length) (has : (Value.ref b :: argsL).toArray = as') (hst : st = argsL.reverse ++ .ref b :: rest) (hW : 2 * 0 + (rest.map fun v => v.category).sum ≤ W) (hd : decode c.code pc = .ok (.invokespecial idx, 3)) (hp : pc + 3 = pc') (k : ∀ v T' L, Stand p l e R s m args below meth c T' (locs ++ L) (cells + rm.cells) (slots + rm.slots) → Q v T'.heap L → own_G p.tables e below P T' (mkF m pc' Ls (v.toList ++ rest))) : own_G p.tables e below P T (mkF m pc Ls st) := by
  subst hp
  obtain ⟨v, vm, ⟨T', L', k', n'⟩, -, X', ⟨L, hQ, l', y', z'⟩, stp⟩ := Jvm.LawKit.callI X hx (y := y) hown hy1 (mvT hZ w1) (mvT hZ w2) (mvT hZ w4) hy (backOf (W := W) hM hZ w4 w5 hf hl) (g := mkF m pc Ls st) rfl hsz (a := b) (argsL := argsL) (rest := rest) hlen hst hW hd (fun _ _ => ⟨has, eT, hc, hsl⟩)
  dsimp only [Pt.U, Pt.locs, Pt.cells, Pt.slots] at X' l' y' z' stp hQ
  subst l' y' z'
  exact own_go stp (k v T' L X' hQ)
theorem own_fldI {u : Term} {C n d : String} {x : Addr} {z : Int32} (ht : u.eval args s none [] s = some (.ref x)) (hq : (Jvm.Cond.eq (.field u C n d) (.int z)).value args s none s [] = some true) : Fld s s.heap x C n d (.int z) :=
  Fld.start ((fld_at ht).symm.trans (Cond.eq_int (Cond.before_iff.mpr hq) rfl))
theorem own_fldR {u t : Term} {C n d : String} {x y : Addr} (ht : u.eval args s none [] s = some (.ref x)) (hu : t.eval args s none [] s = some (.ref y)) (hq : (Jvm.Cond.eq (.field u C n d) t).value args s none s [] = some true) : Fld s s.heap x C n d (.ref y) :=
  Fld.start ((fld_at ht).symm.trans (Cond.eq_refs (Cond.before_iff.mpr hq) hu rfl))
theorem own_none {u : Term} {x : Addr} {cl : Cell} (A : Arr s s.heap x cl .int) (ht : u.eval args s none [] s = some (.ref x)) (hq : (Jvm.Cond.eq (.length u) (.int 0)).value args s none s [] = some true) : Arv s s.heap x cl.cls .int (0 : Int32) [] (.int (0 : Int32)) := by
  have e1 := Cond.eq_int (Cond.before_iff.mpr hq) (n := 0) rfl
  obtain ⟨sd, SA, hev, harrAt, -⟩ := Term.length_spec e1
  have h31 := SBG.length_lt hev harrAt e1
  cases ht.symm.trans hev
  cases (Arr.fin (Vm.Alike.refl _) A).symm.trans harrAt
  have e2 := len_f ht harrAt h31
  have e3 : cl.slots.size.toInt32 = (0 : Int32) := by simpa using Option.some.inj (e2.symm.trans e1)
  have e4 : cl.slots.size = 0 := by
    have e5 := congrArg Int32.toInt e3
    rw [len_toInt h31] at e5
    have e6 : ((0 : Int32)).toInt = 0 := by decide
    omega
  exact ⟨cl, A, rfl, e4, by decide, fun k hk => by omega, fun i hi => by omega⟩
end OwnKit
theorem W6 {a0 : Array Value} {Z : State} (hw : ∀ d ∈ tables_1, d.before a0 Z = true) : (Jvm.Cond.initialized "com/example/office_to_office/officetooffice/segnatura/Anomalia").before a0 Z = true := hw _ (List.mem_of_getElem? (i := 6) rfl)
theorem W7 {a0 : Array Value} {Z : State} (hw : ∀ d ∈ tables_1, d.before a0 Z = true) : (Jvm.Cond.laysStatic "com/example/office_to_office/officetooffice/segnatura/Anomalia" "IRRICEVIBILE" "Lcom/example/office_to_office/officetooffice/segnatura/Anomalia;").before a0 Z = true := hw _ (List.mem_of_getElem? (i := 7) rfl)
theorem W9 {a0 : Array Value} {Z : State} (hw : ∀ d ∈ tables_1, d.before a0 Z = true) : (Jvm.Cond.laysStatic "com/example/office_to_office/officetooffice/segnatura/Anomalia" "VALIDAZIONE_FIRMA" "Lcom/example/office_to_office/officetooffice/segnatura/Anomalia;").before a0 Z = true := hw _ (List.mem_of_getElem? (i := 9) rfl)
theorem W11 {a0 : Array Value} {Z : State} (hw : ∀ d ∈ tables_1, d.before a0 Z = true) : (Jvm.Cond.laysStatic "com/example/office_to_office/officetooffice/segnatura/Anomalia" "ANOMALIA_IMPRONTE" "Lcom/example/office_to_office/officetooffice/segnatura/Anomalia;").before a0 Z = true := hw _ (List.mem_of_getElem? (i := 11) rfl)
theorem W19 {a0 : Array Value} {Z : State} (hw : ∀ d ∈ tables_1, d.before a0 Z = true) : (Jvm.Cond.initialized "com/example/office_to_office/officetooffice/segnatura/Anomalia$Carrier").before a0 Z = true := hw _ (List.mem_of_getElem? (i := 19) rfl)
theorem W20 {a0 : Array Value} {Z : State} (hw : ∀ d ∈ tables_1, d.before a0 Z = true) : (Jvm.Cond.laysStatic "com/example/office_to_office/officetooffice/segnatura/Anomalia$Carrier" "CONFERMA" "Lcom/example/office_to_office/officetooffice/segnatura/Anomalia$Carrier;").before a0 Z = true := hw _ (List.mem_of_getElem? (i := 20) rfl)
theorem W22 {a0 : Array Value} {Z : State} (hw : ∀ d ∈ tables_1, d.before a0 Z = true) : (Jvm.Cond.laysStatic "com/example/office_to_office/officetooffice/segnatura/Anomalia$Carrier" "INOLTRO" "Lcom/example/office_to_office/officetooffice/segnatura/Anomalia$Carrier;").before a0 Z = true := hw _ (List.mem_of_getElem? (i := 22) rfl)
theorem W24 {a0 : Array Value} {Z : State} (hw : ∀ d ∈ tables_1, d.before a0 Z = true) : (Jvm.Cond.laysStatic "com/example/office_to_office/officetooffice/segnatura/Anomalia" "DOCUMENTI_NON_LEGGIBILI" "Lcom/example/office_to_office/officetooffice/segnatura/Anomalia;").before a0 Z = true := hw _ (List.mem_of_getElem? (i := 24) rfl)
theorem W32 {a0 : Array Value} {Z : State} (hw : ∀ d ∈ tables_1, d.before a0 Z = true) : (Jvm.Cond.laysStatic "com/example/office_to_office/officetooffice/segnatura/Anomalia" "IRRICEVIBILITA" "Lcom/example/office_to_office/officetooffice/segnatura/Anomalia;").before a0 Z = true := hw _ (List.mem_of_getElem? (i := 32) rfl)
theorem W33 {a0 : Array Value} {Z : State} (hw : ∀ d ∈ tables_1, d.before a0 Z = true) : (Jvm.Cond.laysStatic "com/example/office_to_office/officetooffice/segnatura/Anomalia$Carrier" "ANNULMENT" "Lcom/example/office_to_office/officetooffice/segnatura/Anomalia$Carrier;").before a0 Z = true := hw _ (List.mem_of_getElem? (i := 33) rfl)
theorem W35 {a0 : Array Value} {Z : State} (hw : ∀ d ∈ tables_1, d.before a0 Z = true) : (Jvm.Cond.laysStatic "com/example/office_to_office/officetooffice/segnatura/Anomalia" "FIRMA_DOCUMENTI" "Lcom/example/office_to_office/officetooffice/segnatura/Anomalia;").before a0 Z = true := hw _ (List.mem_of_getElem? (i := 35) rfl)
theorem W37 {a0 : Array Value} {Z : State} (hw : ∀ d ∈ tables_1, d.before a0 Z = true) : (Jvm.Cond.laysStatic "com/example/office_to_office/officetooffice/segnatura/Anomalia" "IDENTIFICATORE_NON_TROVATO" "Lcom/example/office_to_office/officetooffice/segnatura/Anomalia;").before a0 Z = true := hw _ (List.mem_of_getElem? (i := 37) rfl)
theorem W39 {a0 : Array Value} {Z : State} (hw : ∀ d ∈ tables_1, d.before a0 Z = true) : (Jvm.Cond.laysStatic "com/example/office_to_office/officetooffice/segnatura/Anomalia" "SIGILLO_DOCUMENTI" "Lcom/example/office_to_office/officetooffice/segnatura/Anomalia;").before a0 Z = true := hw _ (List.mem_of_getElem? (i := 39) rfl)
theorem W41 {a0 : Array Value} {Z : State} (hw : ∀ d ∈ tables_1, d.before a0 Z = true) : (Jvm.Cond.laysStatic "com/example/office_to_office/officetooffice/segnatura/Anomalia" "MARCA_DOCUMENTI" "Lcom/example/office_to_office/officetooffice/segnatura/Anomalia;").before a0 Z = true := hw _ (List.mem_of_getElem? (i := 41) rfl)
theorem own_t32_0 : (0 : Int32).toInt = 0 := by decide
theorem own_t32_1 : (1 : Int32).toInt = 1 := by decide
theorem own_t32_2 : (2 : Int32).toInt = 2 := by decide
theorem own_t32_3 : (3 : Int32).toInt = 3 := by decide
theorem own_t32_4 : (4 : Int32).toInt = 4 := by decide
theorem own_t32_5 : (5 : Int32).toInt = 5 := by decide
theorem own_t32_6 : (6 : Int32).toInt = 6 := by decide
theorem own_t32_7 : (7 : Int32).toInt = 7 := by decide
theorem own_t32_8 : (8 : Int32).toInt = 8 := by decide
theorem own_t32_9 : (9 : Int32).toInt = 9 := by decide
def own_pick (k : Int32) (r_IRRICEVIBILE r_VALIDAZIONE_FIRMA r_ANOMALIA_IMPRONTE r_DOCUMENTI_NON_LEGGIBILI r_FIRMA_DOCUMENTI r_MARCA_DOCUMENTI r_SIGILLO_DOCUMENTI r_IRRICEVIBILITA r_IDENTIFICATORE_NON_TROVATO : Addr) : Addr := if k = 0 then r_IRRICEVIBILE else if k = 1 then r_VALIDAZIONE_FIRMA else if k = 2 then r_ANOMALIA_IMPRONTE else if k = 3 then r_DOCUMENTI_NON_LEGGIBILI else if k = 4 then r_FIRMA_DOCUMENTI else if k = 5 then r_MARCA_DOCUMENTI else if k = 6 then r_SIGILLO_DOCUMENTI else if k = 7 then r_IRRICEVIBILITA else r_IDENTIFICATORE_NON_TROVATO
theorem d1_0 : decode method_2_code 0 = .ok (.iload_n 0, 1) := by decide +kernel
theorem d1_1 : decode method_2_code 1 = .ok (.ifCond .ne 7, 3) := by decide +kernel
theorem d1_4 : decode method_2_code 4 = .ok (.getstatic 7, 3) := by decide +kernel
theorem d1_7 : decode method_2_code 7 = .ok (.areturn, 1) := by decide +kernel
theorem d1_8 : decode method_2_code 8 = .ok (.iload_n 0, 1) := by decide +kernel
theorem d1_9 : decode method_2_code 9 = .ok (.iconst 1, 1) := by decide +kernel
theorem d1_10 : decode method_2_code 10 = .ok (.if_icmp .ne 7, 3) := by decide +kernel
theorem d1_13 : decode method_2_code 13 = .ok (.getstatic 13, 3) := by decide +kernel
theorem d1_16 : decode method_2_code 16 = .ok (.areturn, 1) := by decide +kernel
theorem d1_17 : decode method_2_code 17 = .ok (.iload_n 0, 1) := by decide +kernel
theorem d1_18 : decode method_2_code 18 = .ok (.iconst 2, 1) := by decide +kernel
theorem d1_19 : decode method_2_code 19 = .ok (.if_icmp .ne 7, 3) := by decide +kernel
theorem d1_22 : decode method_2_code 22 = .ok (.getstatic 16, 3) := by decide +kernel
theorem d1_25 : decode method_2_code 25 = .ok (.areturn, 1) := by decide +kernel
theorem d1_26 : decode method_2_code 26 = .ok (.iload_n 0, 1) := by decide +kernel
theorem d1_27 : decode method_2_code 27 = .ok (.iconst 3, 1) := by decide +kernel
theorem d1_28 : decode method_2_code 28 = .ok (.if_icmp .ne 7, 3) := by decide +kernel
theorem d1_31 : decode method_2_code 31 = .ok (.getstatic 19, 3) := by decide +kernel
theorem d1_34 : decode method_2_code 34 = .ok (.areturn, 1) := by decide +kernel
theorem d1_35 : decode method_2_code 35 = .ok (.iload_n 0, 1) := by decide +kernel
theorem d1_36 : decode method_2_code 36 = .ok (.iconst 4, 1) := by decide +kernel
theorem d1_37 : decode method_2_code 37 = .ok (.if_icmp .ne 7, 3) := by decide +kernel
theorem d1_40 : decode method_2_code 40 = .ok (.getstatic 22, 3) := by decide +kernel
theorem d1_43 : decode method_2_code 43 = .ok (.areturn, 1) := by decide +kernel
theorem d1_44 : decode method_2_code 44 = .ok (.iload_n 0, 1) := by decide +kernel
theorem d1_45 : decode method_2_code 45 = .ok (.iconst 5, 1) := by decide +kernel
theorem d1_46 : decode method_2_code 46 = .ok (.if_icmp .ne 7, 3) := by decide +kernel
theorem d1_49 : decode method_2_code 49 = .ok (.getstatic 25, 3) := by decide +kernel
theorem d1_52 : decode method_2_code 52 = .ok (.areturn, 1) := by decide +kernel
theorem d1_53 : decode method_2_code 53 = .ok (.iload_n 0, 1) := by decide +kernel
theorem d1_54 : decode method_2_code 54 = .ok (.bipush 6, 2) := by decide +kernel
theorem d1_56 : decode method_2_code 56 = .ok (.if_icmp .ne 7, 3) := by decide +kernel
theorem d1_59 : decode method_2_code 59 = .ok (.getstatic 28, 3) := by decide +kernel
theorem d1_62 : decode method_2_code 62 = .ok (.areturn, 1) := by decide +kernel
theorem d1_63 : decode method_2_code 63 = .ok (.iload_n 0, 1) := by decide +kernel
theorem d1_64 : decode method_2_code 64 = .ok (.bipush 7, 2) := by decide +kernel
theorem d1_66 : decode method_2_code 66 = .ok (.if_icmp .ne 7, 3) := by decide +kernel
theorem d1_69 : decode method_2_code 69 = .ok (.getstatic 31, 3) := by decide +kernel
theorem d1_72 : decode method_2_code 72 = .ok (.areturn, 1) := by decide +kernel
theorem d1_73 : decode method_2_code 73 = .ok (.getstatic 34, 3) := by decide +kernel
theorem d1_76 : decode method_2_code 76 = .ok (.areturn, 1) := by decide +kernel
def Qpick (k : Int32) (r_IRRICEVIBILE r_VALIDAZIONE_FIRMA r_ANOMALIA_IMPRONTE r_DOCUMENTI_NON_LEGGIBILI r_FIRMA_DOCUMENTI r_MARCA_DOCUMENTI r_SIGILLO_DOCUMENTI r_IRRICEVIBILITA r_IDENTIFICATORE_NON_TROVATO : Addr) (h0 : Heap) (n0 : Nat) (v : Option Value) (h : Heap) (L : List Loc) : Prop := v = some (.ref (own_pick k r_IRRICEVIBILE r_VALIDAZIONE_FIRMA r_ANOMALIA_IMPRONTE r_DOCUMENTI_NON_LEGGIBILI r_FIRMA_DOCUMENTI r_MARCA_DOCUMENTI r_SIGILLO_DOCUMENTI r_IRRICEVIBILITA r_IDENTIFICATORE_NON_TROVATO)) ∧ Fr n0 L ∧ h = h0
theorem ef_rmPick (m : MethodId) (x0 : Int32) : entryFrame m #[(.int x0)] 1 = mkF m 0 #[.val (.int x0)] [] := by first | (simp [entryFrame, mkF, argsToLocals, Value.category, maxLocals]; done) | rfl
theorem pf_0 : plainFor (⟨"com/example/office_to_office/officetooffice/segnatura/AnomaliaInAnswerToInoltroPinLaw", "pick", "(I)Lcom/example/office_to_office/officetooffice/segnatura/Anomalia;"⟩ : MethodName) = true := by apply plainFor_of_name; first | (simp [plainName, overriddenIn]; done) | decide +kernel
theorem W5 {a0 : Array Value} {Z : State} (hw : ∀ d ∈ tables_1, d.before a0 Z = true) : (Jvm.Cond.fieldLink "com/example/office_to_office/officetooffice/segnatura/AnomaliaInAnswerToInoltroPinLaw" (7 : Nat) "com/example/office_to_office/officetooffice/segnatura/Anomalia" "IRRICEVIBILE" "Lcom/example/office_to_office/officetooffice/segnatura/Anomalia;").before a0 Z = true := hw _ (List.mem_of_getElem? (i := 5) rfl)
theorem W8 {a0 : Array Value} {Z : State} (hw : ∀ d ∈ tables_1, d.before a0 Z = true) : (Jvm.Cond.fieldLink "com/example/office_to_office/officetooffice/segnatura/AnomaliaInAnswerToInoltroPinLaw" (13 : Nat) "com/example/office_to_office/officetooffice/segnatura/Anomalia" "VALIDAZIONE_FIRMA" "Lcom/example/office_to_office/officetooffice/segnatura/Anomalia;").before a0 Z = true := hw _ (List.mem_of_getElem? (i := 8) rfl)
theorem W10 {a0 : Array Value} {Z : State} (hw : ∀ d ∈ tables_1, d.before a0 Z = true) : (Jvm.Cond.fieldLink "com/example/office_to_office/officetooffice/segnatura/AnomaliaInAnswerToInoltroPinLaw" (16 : Nat) "com/example/office_to_office/officetooffice/segnatura/Anomalia" "ANOMALIA_IMPRONTE" "Lcom/example/office_to_office/officetooffice/segnatura/Anomalia;").before a0 Z = true := hw _ (List.mem_of_getElem? (i := 10) rfl)
theorem W23 {a0 : Array Value} {Z : State} (hw : ∀ d ∈ tables_1, d.before a0 Z = true) : (Jvm.Cond.fieldLink "com/example/office_to_office/officetooffice/segnatura/AnomaliaInAnswerToInoltroPinLaw" (19 : Nat) "com/example/office_to_office/officetooffice/segnatura/Anomalia" "DOCUMENTI_NON_LEGGIBILI" "Lcom/example/office_to_office/officetooffice/segnatura/Anomalia;").before a0 Z = true := hw _ (List.mem_of_getElem? (i := 23) rfl)
theorem W34 {a0 : Array Value} {Z : State} (hw : ∀ d ∈ tables_1, d.before a0 Z = true) : (Jvm.Cond.fieldLink "com/example/office_to_office/officetooffice/segnatura/AnomaliaInAnswerToInoltroPinLaw" (22 : Nat) "com/example/office_to_office/officetooffice/segnatura/Anomalia" "FIRMA_DOCUMENTI" "Lcom/example/office_to_office/officetooffice/segnatura/Anomalia;").before a0 Z = true := hw _ (List.mem_of_getElem? (i := 34) rfl)
theorem W40 {a0 : Array Value} {Z : State} (hw : ∀ d ∈ tables_1, d.before a0 Z = true) : (Jvm.Cond.fieldLink "com/example/office_to_office/officetooffice/segnatura/AnomaliaInAnswerToInoltroPinLaw" (25 : Nat) "com/example/office_to_office/officetooffice/segnatura/Anomalia" "MARCA_DOCUMENTI" "Lcom/example/office_to_office/officetooffice/segnatura/Anomalia;").before a0 Z = true := hw _ (List.mem_of_getElem? (i := 40) rfl)
theorem W38 {a0 : Array Value} {Z : State} (hw : ∀ d ∈ tables_1, d.before a0 Z = true) : (Jvm.Cond.fieldLink "com/example/office_to_office/officetooffice/segnatura/AnomaliaInAnswerToInoltroPinLaw" (28 : Nat) "com/example/office_to_office/officetooffice/segnatura/Anomalia" "SIGILLO_DOCUMENTI" "Lcom/example/office_to_office/officetooffice/segnatura/Anomalia;").before a0 Z = true := hw _ (List.mem_of_getElem? (i := 38) rfl)
theorem W31 {a0 : Array Value} {Z : State} (hw : ∀ d ∈ tables_1, d.before a0 Z = true) : (Jvm.Cond.fieldLink "com/example/office_to_office/officetooffice/segnatura/AnomaliaInAnswerToInoltroPinLaw" (31 : Nat) "com/example/office_to_office/officetooffice/segnatura/Anomalia" "IRRICEVIBILITA" "Lcom/example/office_to_office/officetooffice/segnatura/Anomalia;").before a0 Z = true := hw _ (List.mem_of_getElem? (i := 31) rfl)
theorem W36 {a0 : Array Value} {Z : State} (hw : ∀ d ∈ tables_1, d.before a0 Z = true) : (Jvm.Cond.fieldLink "com/example/office_to_office/officetooffice/segnatura/AnomaliaInAnswerToInoltroPinLaw" (34 : Nat) "com/example/office_to_office/officetooffice/segnatura/Anomalia" "IDENTIFICATORE_NON_TROVATO" "Lcom/example/office_to_office/officetooffice/segnatura/Anomalia;").before a0 Z = true := hw _ (List.mem_of_getElem? (i := 36) rfl)
set_option maxRecDepth 65536 in
set_option maxHeartbeats 40000000 in
theorem rmPick (l : Launch) (Z : State) (a0 : Array Value) (hw : ∀ d ∈ tables_1, d.before a0 Z = true) (ws : List Jvm.Cond) (q0 : Int32) (r_IRRICEVIBILE r_VALIDAZIONE_FIRMA r_ANOMALIA_IMPRONTE r_DOCUMENTI_NON_LEGGIBILI r_FIRMA_DOCUMENTI r_MARCA_DOCUMENTI r_SIGILLO_DOCUMENTI r_IRRICEVIBILITA r_IDENTIFICATORE_NON_TROVATO : Addr) (h0 : Heap) (n0 : Nat) (Z0 : n0 ≤ h0.size) (S_r_IRRICEVIBILE : Sta Z h0 "com/example/office_to_office/officetooffice/segnatura/Anomalia" "IRRICEVIBILE" "Lcom/example/office_to_office/officetooffice/segnatura/Anomalia;" (.ref r_IRRICEVIBILE)) (S_r_VALIDAZIONE_FIRMA : Sta Z h0 "com/example/office_to_office/officetooffice/segnatura/Anomalia" "VALIDAZIONE_FIRMA" "Lcom/example/office_to_office/officetooffice/segnatura/Anomalia;" (.ref r_VALIDAZIONE_FIRMA)) (S_r_ANOMALIA_IMPRONTE : Sta Z h0 "com/example/office_to_office/officetooffice/segnatura/Anomalia" "ANOMALIA_IMPRONTE" "Lcom/example/office_to_office/officetooffice/segnatura/Anomalia;" (.ref r_ANOMALIA_IMPRONTE)) (S_r_DOCUMENTI_NON_LEGGIBILI : Sta Z h0 "com/example/office_to_office/officetooffice/segnatura/Anomalia" "DOCUMENTI_NON_LEGGIBILI" "Lcom/example/office_to_office/officetooffice/segnatura/Anomalia;" (.ref r_DOCUMENTI_NON_LEGGIBILI)) (S_r_IRRICEVIBILITA : Sta Z h0 "com/example/office_to_office/officetooffice/segnatura/Anomalia" "IRRICEVIBILITA" "Lcom/example/office_to_office/officetooffice/segnatura/Anomalia;" (.ref r_IRRICEVIBILITA)) (S_r_FIRMA_DOCUMENTI : Sta Z h0 "com/example/office_to_office/officetooffice/segnatura/Anomalia" "FIRMA_DOCUMENTI" "Lcom/example/office_to_office/officetooffice/segnatura/Anomalia;" (.ref r_FIRMA_DOCUMENTI)) (S_r_IDENTIFICATORE_NON_TROVATO : Sta Z h0 "com/example/office_to_office/officetooffice/segnatura/Anomalia" "IDENTIFICATORE_NON_TROVATO" "Lcom/example/office_to_office/officetooffice/segnatura/Anomalia;" (.ref r_IDENTIFICATORE_NON_TROVATO)) (S_r_SIGILLO_DOCUMENTI : Sta Z h0 "com/example/office_to_office/officetooffice/segnatura/Anomalia" "SIGILLO_DOCUMENTI" "Lcom/example/office_to_office/officetooffice/segnatura/Anomalia;" (.ref r_SIGILLO_DOCUMENTI)) (S_r_MARCA_DOCUMENTI : Sta Z h0 "com/example/office_to_office/officetooffice/segnatura/Anomalia" "MARCA_DOCUMENTI" "Lcom/example/office_to_office/officetooffice/segnatura/Anomalia;" (.ref r_MARCA_DOCUMENTI)) :
    MetFree l (⟨"com/example/office_to_office/officetooffice/segnatura/AnomaliaInAnswerToInoltroPinLaw", "pick", "(I)Lcom/example/office_to_office/officetooffice/segnatura/Anomalia;"⟩ : MethodName) (head1 (Jvm.Cond.code (⟨"com/example/office_to_office/officetooffice/segnatura/AnomaliaInAnswerToInoltroPinLaw", "pick", "(I)Lcom/example/office_to_office/officetooffice/segnatura/Anomalia;"⟩ : MethodName) method_2_code 1 (some (.object "com/example/office_to_office/officetooffice/segnatura/Anomalia")) :: ws) ({ frames := 0, cells := 0, slots := 0, locals := 0 } : Room)) (fun aa U => aa = #[(.int q0)] ∧ Z.Warmed39 U.vm ∧ U.heap = h0) (fun _ _ _ _ _ => True) (fun _ U o U' => ∃ v L, o = .returned v ∧ Qpick q0 r_IRRICEVIBILE r_VALIDAZIONE_FIRMA r_ANOMALIA_IMPRONTE r_DOCUMENTI_NON_LEGGIBILI r_FIRMA_DOCUMENTI r_MARCA_DOCUMENTI r_SIGILLO_DOCUMENTI r_IRRICEVIBILITA r_IDENTIFICATORE_NON_TROVATO h0 n0 v U'.heap L ∧ FrameEnd U o U' L (({ frames := 0, cells := 0, slots := 0, locals := 0 } : Room).cells) (({ frames := 0, cells := 0, slots := 0, locals := 0 } : Room).slots)) := by
  refine own_body pf_0 ?_
  intro p e s m below meth c s₁ hx hby hml hown hnm hlk hret hZ X0 e0
  have N0 : Fr n0 [] := Fr.nil n0
  refine own_go (f' := (mkF m 0 #[.val (.int q0)] [])) (fun t k => castTop (ef_rmPick m q0) k) ?_
  refine own_iloadN X0 hx (pc' := 1) (hb hby d1_0) rfl rfl ?_
  by_cases hc1_1 : q0 = (0 : Int32)
  · skip
    refine own_ifNo X0 hx (pc' := 4) (hb hby d1_1) (teq hc1_1).2 rfl ?_
    refine own_getS X0 hx (pc' := 7) hZ hown (host := "") (Or.inl (W5 hw)) Via.refl e0 S_r_IRRICEVIBILE (hb hby d1_4) rfl (fun T2 X2 e2 => ?_)
    refine own_retA X2 hx hlk hret rfl rfl rfl (hb hby d1_7) (by decide) (by decide) ?_
    exact ⟨by simp [own_pick, hc1_1], N0, e2⟩
  · skip
    refine own_ifYes X0 hx (pc' := 8) (hb hby d1_1) (feq hc1_1).2 (by decide) (by decide) ?_
    refine own_iloadN X0 hx (pc' := 9) (hb hby d1_8) rfl rfl ?_
    refine own_iconst X0 hx (pc' := 10) (1 : Int32) (hb hby d1_9) rfl rfl ?_
    by_cases hc10_3 : q0 = (1 : Int32)
    · skip
      refine own_icmpNo X0 hx (pc' := 13) (hb hby d1_10) (teq hc10_3).2 rfl ?_
      refine own_getS X0 hx (pc' := 16) hZ hown (host := "") (Or.inl (W8 hw)) Via.refl e0 S_r_VALIDAZIONE_FIRMA (hb hby d1_13) rfl (fun T4 X4 e4 => ?_)
      refine own_retA X4 hx hlk hret rfl rfl rfl (hb hby d1_16) (by decide) (by decide) ?_
      exact ⟨by simp [own_pick, hc1_1, hc10_3], N0, e4⟩
    · skip
      refine own_icmpYes X0 hx (pc' := 17) (hb hby d1_10) (feq hc10_3).2 (by decide) (by decide) ?_
      refine own_iloadN X0 hx (pc' := 18) (hb hby d1_17) rfl rfl ?_
      refine own_iconst X0 hx (pc' := 19) (2 : Int32) (hb hby d1_18) rfl rfl ?_
      by_cases hc19_5 : q0 = (2 : Int32)
      · skip
        refine own_icmpNo X0 hx (pc' := 22) (hb hby d1_19) (teq hc19_5).2 rfl ?_
        refine own_getS X0 hx (pc' := 25) hZ hown (host := "") (Or.inl (W10 hw)) Via.refl e0 S_r_ANOMALIA_IMPRONTE (hb hby d1_22) rfl (fun T6 X6 e6 => ?_)
        refine own_retA X6 hx hlk hret rfl rfl rfl (hb hby d1_25) (by decide) (by decide) ?_
        exact ⟨by simp [own_pick, hc1_1, hc10_3, hc19_5], N0, e6⟩
      · skip
        refine own_icmpYes X0 hx (pc' := 26) (hb hby d1_19) (feq hc19_5).2 (by decide) (by decide) ?_
        refine own_iloadN X0 hx (pc' := 27) (hb hby d1_26) rfl rfl ?_
        refine own_iconst X0 hx (pc' := 28) (3 : Int32) (hb hby d1_27) rfl rfl ?_
        by_cases hc28_7 : q0 = (3 : Int32)
        · skip
          refine own_icmpNo X0 hx (pc' := 31) (hb hby d1_28) (teq hc28_7).2 rfl ?_
          refine own_getS X0 hx (pc' := 34) hZ hown (host := "") (Or.inl (W23 hw)) Via.refl e0 S_r_DOCUMENTI_NON_LEGGIBILI (hb hby d1_31) rfl (fun T8 X8 e8 => ?_)
          refine own_retA X8 hx hlk hret rfl rfl rfl (hb hby d1_34) (by decide) (by decide) ?_
          exact ⟨by simp [own_pick, hc1_1, hc10_3, hc19_5, hc28_7], N0, e8⟩
        · skip
          refine own_icmpYes X0 hx (pc' := 35) (hb hby d1_28) (feq hc28_7).2 (by decide) (by decide) ?_
          refine own_iloadN X0 hx (pc' := 36) (hb hby d1_35) rfl rfl ?_
          refine own_iconst X0 hx (pc' := 37) (4 : Int32) (hb hby d1_36) rfl rfl ?_
          by_cases hc37_9 : q0 = (4 : Int32)
          · skip
            refine own_icmpNo X0 hx (pc' := 40) (hb hby d1_37) (teq hc37_9).2 rfl ?_
            refine own_getS X0 hx (pc' := 43) hZ hown (host := "") (Or.inl (W34 hw)) Via.refl e0 S_r_FIRMA_DOCUMENTI (hb hby d1_40) rfl (fun T10 X10 e10 => ?_)
            refine own_retA X10 hx hlk hret rfl rfl rfl (hb hby d1_43) (by decide) (by decide) ?_
            exact ⟨by simp [own_pick, hc1_1, hc10_3, hc19_5, hc28_7, hc37_9], N0, e10⟩
          · skip
            refine own_icmpYes X0 hx (pc' := 44) (hb hby d1_37) (feq hc37_9).2 (by decide) (by decide) ?_
            refine own_iloadN X0 hx (pc' := 45) (hb hby d1_44) rfl rfl ?_
            refine own_iconst X0 hx (pc' := 46) (5 : Int32) (hb hby d1_45) rfl rfl ?_
            by_cases hc46_11 : q0 = (5 : Int32)
            · skip
              refine own_icmpNo X0 hx (pc' := 49) (hb hby d1_46) (teq hc46_11).2 rfl ?_
              refine own_getS X0 hx (pc' := 52) hZ hown (host := "") (Or.inl (W40 hw)) Via.refl e0 S_r_MARCA_DOCUMENTI (hb hby d1_49) rfl (fun T12 X12 e12 => ?_)
              refine own_retA X12 hx hlk hret rfl rfl rfl (hb hby d1_52) (by decide) (by decide) ?_
              exact ⟨by simp [own_pick, hc1_1, hc10_3, hc19_5, hc28_7, hc37_9, hc46_11], N0, e12⟩
            · skip
              refine own_icmpYes X0 hx (pc' := 53) (hb hby d1_46) (feq hc46_11).2 (by decide) (by decide) ?_
              refine own_iloadN X0 hx (pc' := 54) (hb hby d1_53) rfl rfl ?_
              refine own_bipush X0 hx (pc' := 56) (6 : Int32) (hb hby d1_54) rfl rfl ?_
              by_cases hc56_13 : q0 = (6 : Int32)
              · skip
                refine own_icmpNo X0 hx (pc' := 59) (hb hby d1_56) (teq hc56_13).2 rfl ?_
                refine own_getS X0 hx (pc' := 62) hZ hown (host := "") (Or.inl (W38 hw)) Via.refl e0 S_r_SIGILLO_DOCUMENTI (hb hby d1_59) rfl (fun T14 X14 e14 => ?_)
                refine own_retA X14 hx hlk hret rfl rfl rfl (hb hby d1_62) (by decide) (by decide) ?_
                exact ⟨by simp [own_pick, hc1_1, hc10_3, hc19_5, hc28_7, hc37_9, hc46_11, hc56_13], N0, e14⟩
              · skip
                refine own_icmpYes X0 hx (pc' := 63) (hb hby d1_56) (feq hc56_13).2 (by decide) (by decide) ?_
                refine own_iloadN X0 hx (pc' := 64) (hb hby d1_63) rfl rfl ?_
                refine own_bipush X0 hx (pc' := 66) (7 : Int32) (hb hby d1_64) rfl rfl ?_
                by_cases hc66_15 : q0 = (7 : Int32)
                · skip
                  refine own_icmpNo X0 hx (pc' := 69) (hb hby d1_66) (teq hc66_15).2 rfl ?_
                  refine own_getS X0 hx (pc' := 72) hZ hown (host := "") (Or.inl (W31 hw)) Via.refl e0 S_r_IRRICEVIBILITA (hb hby d1_69) rfl (fun T16 X16 e16 => ?_)
                  refine own_retA X16 hx hlk hret rfl rfl rfl (hb hby d1_72) (by decide) (by decide) ?_
                  exact ⟨by simp [own_pick, hc1_1, hc10_3, hc19_5, hc28_7, hc37_9, hc46_11, hc56_13, hc66_15], N0, e16⟩
                · skip
                  refine own_icmpYes X0 hx (pc' := 73) (hb hby d1_66) (feq hc66_15).2 (by decide) (by decide) ?_
                  refine own_getS X0 hx (pc' := 76) hZ hown (host := "") (Or.inl (W36 hw)) Via.refl e0 S_r_IDENTIFICATORE_NON_TROVATO (hb hby d1_73) rfl (fun T17 X17 e17 => ?_)
                  refine own_retA X17 hx hlk hret rfl rfl rfl (hb hby d1_76) (by decide) (by decide) ?_
                  exact ⟨by simp [own_pick, hc1_1, hc10_3, hc19_5, hc28_7, hc37_9, hc46_11, hc56_13, hc66_15], N0, e17⟩

theorem d2_0 : decode prog_20_method_5_code 0 = .ok (.aload_n 0, 1) := by decide +kernel
theorem d2_1 : decode prog_20_method_5_code 1 = .ok (.getfield 54, 3) := by decide +kernel
theorem d2_4 : decode prog_20_method_5_code 4 = .ok (.getstatic 58, 3) := by decide +kernel
theorem d2_7 : decode prog_20_method_5_code 7 = .ok (.if_acmp .ne 7, 3) := by decide +kernel
theorem d2_10 : decode prog_20_method_5_code 10 = .ok (.iconst 1, 1) := by decide +kernel
theorem d2_11 : decode prog_20_method_5_code 11 = .ok (.goto 4, 3) := by decide +kernel
theorem d2_14 : decode prog_20_method_5_code 14 = .ok (.iconst 0, 1) := by decide +kernel
theorem d2_15 : decode prog_20_method_5_code 15 = .ok (.ireturn, 1) := by decide +kernel
def QinAnswerToInoltro (c r_INOLTRO : Addr) (h0 : Heap) (n0 : Nat) (v : Option Value) (h : Heap) (L : List Loc) : Prop := v = some (.int (if c = r_INOLTRO then 1 else 0)) ∧ Fr n0 L ∧ h = h0
theorem ef_rm_inAnswerToInoltro (m : MethodId) (x0 : Addr) : entryFrame m #[(.ref x0)] 1 = mkF m 0 #[.val (.ref x0)] [] := by first | (simp [entryFrame, mkF, argsToLocals, Value.category, maxLocals]; done) | rfl
theorem pf_1 : plainFor (⟨"com/example/office_to_office/officetooffice/segnatura/Anomalia", "inAnswerToInoltro", "()Z"⟩ : MethodName) = true := by apply plainFor_of_name; first | (simp [plainName, overriddenIn]; done) | decide +kernel
theorem W17 {a0 : Array Value} {Z : State} (hw : ∀ d ∈ tables_1, d.before a0 Z = true) : (Jvm.Cond.fieldLink "com/example/office_to_office/officetooffice/segnatura/Anomalia" (54 : Nat) "com/example/office_to_office/officetooffice/segnatura/Anomalia" "carrier" "Lcom/example/office_to_office/officetooffice/segnatura/Anomalia$Carrier;").before a0 Z = true := hw _ (List.mem_of_getElem? (i := 17) rfl)
theorem W21 {a0 : Array Value} {Z : State} (hw : ∀ d ∈ tables_1, d.before a0 Z = true) : (Jvm.Cond.fieldLink "com/example/office_to_office/officetooffice/segnatura/Anomalia" (58 : Nat) "com/example/office_to_office/officetooffice/segnatura/Anomalia$Carrier" "INOLTRO" "Lcom/example/office_to_office/officetooffice/segnatura/Anomalia$Carrier;").before a0 Z = true := hw _ (List.mem_of_getElem? (i := 21) rfl)
set_option maxRecDepth 65536 in
set_option maxHeartbeats 40000000 in
theorem rm_inAnswerToInoltro (l : Launch) (Z : State) (a0 : Array Value) (hw : ∀ d ∈ tables_1, d.before a0 Z = true) (ws : List Jvm.Cond) (a cc r_INOLTRO : Addr) (h0 : Heap) (n0 : Nat) (Z0 : n0 ≤ h0.size) (F_a : Fld Z h0 a "com/example/office_to_office/officetooffice/segnatura/Anomalia" "carrier" "Lcom/example/office_to_office/officetooffice/segnatura/Anomalia$Carrier;" (.ref cc)) (S_r_INOLTRO : Sta Z h0 "com/example/office_to_office/officetooffice/segnatura/Anomalia$Carrier" "INOLTRO" "Lcom/example/office_to_office/officetooffice/segnatura/Anomalia$Carrier;" (.ref r_INOLTRO)) :
    MetFree l (⟨"com/example/office_to_office/officetooffice/segnatura/Anomalia", "inAnswerToInoltro", "()Z"⟩ : MethodName) (head1 (Jvm.Cond.code (⟨"com/example/office_to_office/officetooffice/segnatura/Anomalia", "inAnswerToInoltro", "()Z"⟩ : MethodName) prog_20_method_5_code 1 (some .boolean) :: ws) ({ frames := 0, cells := 0, slots := 0, locals := 0 } : Room)) (fun aa U => aa = #[(.ref a)] ∧ Z.Warmed39 U.vm ∧ U.heap = h0) (fun _ _ _ _ _ => True) (fun _ U o U' => ∃ v L, o = .returned v ∧ QinAnswerToInoltro cc r_INOLTRO h0 n0 v U'.heap L ∧ FrameEnd U o U' L (({ frames := 0, cells := 0, slots := 0, locals := 0 } : Room).cells) (({ frames := 0, cells := 0, slots := 0, locals := 0 } : Room).slots)) := by
  refine own_body pf_1 ?_
  intro p e s m below meth c s₁ hx hby hml hown hnm hlk hret hZ X0 e0
  have N0 : Fr n0 [] := Fr.nil n0
  refine own_go (f' := (mkF m 0 #[.val (.ref a)] [])) (fun t k => castTop (ef_rm_inAnswerToInoltro m a) k) ?_
  refine own_aloadN X0 hx (pc' := 1) (hb hby d2_0) rfl rfl rfl ?_
  refine own_getF X0 hx (pc' := 4) hZ hown (host := "") (Or.inl (W17 hw)) Via.refl e0 F_a (hb hby d2_1) rfl (fun T1 X1 e1 => ?_)
  refine own_getS X1 hx (pc' := 7) hZ hown (host := "") (Or.inl (W21 hw)) Via.refl e1 S_r_INOLTRO (hb hby d2_4) rfl (fun T2 X2 e2 => ?_)
  by_cases hc7_3 : cc = r_INOLTRO
  · skip
    refine own_acmp X2 hx (pc' := 10) true (hb hby d2_7) rfl rfl (decide_eq_true (congrArg Value.ref hc7_3)) (by decide) (by decide) ?_
    refine own_iconst X2 hx (pc' := 11) (1 : Int32) (hb hby d2_10) rfl rfl ?_
    refine own_goto X2 hx (pc' := 15) (hb hby d2_11) (by decide) (by decide) ?_
    refine own_retN X2 hx hlk hret (by simp) (hb hby d2_15) (by decide) (by decide) ?_
    exact ⟨by simp [nar, hc7_3], N0, e2⟩
  · skip
    refine own_acmp X2 hx (pc' := 14) false (hb hby d2_7) rfl rfl (decide_eq_false fun q => hc7_3 (Value.ref.inj q)) (by decide) (by decide) ?_
    refine own_iconst X2 hx (pc' := 15) (0 : Int32) (hb hby d2_14) rfl rfl ?_
    refine own_retN X2 hx hlk hret (by simp) (hb hby d2_15) (by decide) (by decide) ?_
    exact ⟨by simp [nar, hc7_3], N0, e2⟩

theorem d3_0 : decode prog_20_method_6_code 0 = .ok (.aload_n 0, 1) := by decide +kernel
theorem d3_1 : decode prog_20_method_6_code 1 = .ok (.getfield 54, 3) := by decide +kernel
theorem d3_4 : decode prog_20_method_6_code 4 = .ok (.getstatic 63, 3) := by decide +kernel
theorem d3_7 : decode prog_20_method_6_code 7 = .ok (.if_acmp .ne 7, 3) := by decide +kernel
theorem d3_10 : decode prog_20_method_6_code 10 = .ok (.iconst 1, 1) := by decide +kernel
theorem d3_11 : decode prog_20_method_6_code 11 = .ok (.goto 4, 3) := by decide +kernel
theorem d3_14 : decode prog_20_method_6_code 14 = .ok (.iconst 0, 1) := by decide +kernel
theorem d3_15 : decode prog_20_method_6_code 15 = .ok (.ireturn, 1) := by decide +kernel
def QinConferma (c r_CONFERMA : Addr) (h0 : Heap) (n0 : Nat) (v : Option Value) (h : Heap) (L : List Loc) : Prop := v = some (.int (if c = r_CONFERMA then 1 else 0)) ∧ Fr n0 L ∧ h = h0
theorem ef_rm_inConferma (m : MethodId) (x0 : Addr) : entryFrame m #[(.ref x0)] 1 = mkF m 0 #[.val (.ref x0)] [] := by first | (simp [entryFrame, mkF, argsToLocals, Value.category, maxLocals]; done) | rfl
theorem pf_2 : plainFor (⟨"com/example/office_to_office/officetooffice/segnatura/Anomalia", "inConferma", "()Z"⟩ : MethodName) = true := by apply plainFor_of_name; first | (simp [plainName, overriddenIn]; done) | decide +kernel
theorem W30 {a0 : Array Value} {Z : State} (hw : ∀ d ∈ tables_1, d.before a0 Z = true) : (Jvm.Cond.fieldLink "com/example/office_to_office/officetooffice/segnatura/Anomalia" (63 : Nat) "com/example/office_to_office/officetooffice/segnatura/Anomalia$Carrier" "CONFERMA" "Lcom/example/office_to_office/officetooffice/segnatura/Anomalia$Carrier;").before a0 Z = true := hw _ (List.mem_of_getElem? (i := 30) rfl)
set_option maxRecDepth 65536 in
set_option maxHeartbeats 40000000 in
theorem rm_inConferma (l : Launch) (Z : State) (a0 : Array Value) (hw : ∀ d ∈ tables_1, d.before a0 Z = true) (ws : List Jvm.Cond) (a cc r_CONFERMA : Addr) (h0 : Heap) (n0 : Nat) (Z0 : n0 ≤ h0.size) (F_a : Fld Z h0 a "com/example/office_to_office/officetooffice/segnatura/Anomalia" "carrier" "Lcom/example/office_to_office/officetooffice/segnatura/Anomalia$Carrier;" (.ref cc)) (S_r_CONFERMA : Sta Z h0 "com/example/office_to_office/officetooffice/segnatura/Anomalia$Carrier" "CONFERMA" "Lcom/example/office_to_office/officetooffice/segnatura/Anomalia$Carrier;" (.ref r_CONFERMA)) :
    MetFree l (⟨"com/example/office_to_office/officetooffice/segnatura/Anomalia", "inConferma", "()Z"⟩ : MethodName) (head1 (Jvm.Cond.code (⟨"com/example/office_to_office/officetooffice/segnatura/Anomalia", "inConferma", "()Z"⟩ : MethodName) prog_20_method_6_code 1 (some .boolean) :: ws) ({ frames := 0, cells := 0, slots := 0, locals := 0 } : Room)) (fun aa U => aa = #[(.ref a)] ∧ Z.Warmed39 U.vm ∧ U.heap = h0) (fun _ _ _ _ _ => True) (fun _ U o U' => ∃ v L, o = .returned v ∧ QinConferma cc r_CONFERMA h0 n0 v U'.heap L ∧ FrameEnd U o U' L (({ frames := 0, cells := 0, slots := 0, locals := 0 } : Room).cells) (({ frames := 0, cells := 0, slots := 0, locals := 0 } : Room).slots)) := by
  refine own_body pf_2 ?_
  intro p e s m below meth c s₁ hx hby hml hown hnm hlk hret hZ X0 e0
  have N0 : Fr n0 [] := Fr.nil n0
  refine own_go (f' := (mkF m 0 #[.val (.ref a)] [])) (fun t k => castTop (ef_rm_inConferma m a) k) ?_
  refine own_aloadN X0 hx (pc' := 1) (hb hby d3_0) rfl rfl rfl ?_
  refine own_getF X0 hx (pc' := 4) hZ hown (host := "") (Or.inl (W17 hw)) Via.refl e0 F_a (hb hby d3_1) rfl (fun T1 X1 e1 => ?_)
  refine own_getS X1 hx (pc' := 7) hZ hown (host := "") (Or.inl (W30 hw)) Via.refl e1 S_r_CONFERMA (hb hby d3_4) rfl (fun T2 X2 e2 => ?_)
  by_cases hc7_3 : cc = r_CONFERMA
  · skip
    refine own_acmp X2 hx (pc' := 10) true (hb hby d3_7) rfl rfl (decide_eq_true (congrArg Value.ref hc7_3)) (by decide) (by decide) ?_
    refine own_iconst X2 hx (pc' := 11) (1 : Int32) (hb hby d3_10) rfl rfl ?_
    refine own_goto X2 hx (pc' := 15) (hb hby d3_11) (by decide) (by decide) ?_
    refine own_retN X2 hx hlk hret (by simp) (hb hby d3_15) (by decide) (by decide) ?_
    exact ⟨by simp [nar, hc7_3], N0, e2⟩
  · skip
    refine own_acmp X2 hx (pc' := 14) false (hb hby d3_7) rfl rfl (decide_eq_false fun q => hc7_3 (Value.ref.inj q)) (by decide) (by decide) ?_
    refine own_iconst X2 hx (pc' := 15) (0 : Int32) (hb hby d3_14) rfl rfl ?_
    refine own_retN X2 hx hlk hret (by simp) (hb hby d3_15) (by decide) (by decide) ?_
    exact ⟨by simp [nar, hc7_3], N0, e2⟩

def Q0 (n0 : Nat) (v : Option Value) (h : Heap) (L : List Loc) : Prop := v = some (.int 1) ∧ Fr n0 L
theorem ef_rm0 (m : MethodId) (x0 : Int32) : entryFrame m #[(.int x0)] maxLocals = mkF m 0 #[.val (.int x0), .unset, .unset, .unset, .unset] [] := by first | (simp [entryFrame, mkF, argsToLocals, Value.category, maxLocals]; done) | rfl
theorem pf_3 : plainFor (⟨"com/example/office_to_office/officetooffice/segnatura/AnomaliaInAnswerToInoltroPinLaw", "law", "(I)Z"⟩ : MethodName) = true := by apply plainFor_of_name; first | (simp [plainName, overriddenIn]; done) | decide +kernel
theorem W0 {a0 : Array Value} {Z : State} (hw : ∀ d ∈ tables_1, d.before a0 Z = true) : (Jvm.Cond.constant "com/example/office_to_office/officetooffice/segnatura/AnomaliaInAnswerToInoltroPinLaw" (37 : Nat) (2147483647 : Int32)).before a0 Z = true := hw _ (List.mem_of_getElem? (i := 0) rfl)
theorem W4 {a0 : Array Value} {Z : State} (hw : ∀ d ∈ tables_1, d.before a0 Z = true) : (Jvm.Cond.code ({ cls := "com/example/office_to_office/officetooffice/segnatura/AnomaliaInAnswerToInoltroPinLaw", name := "pick", desc := "(I)Lcom/example/office_to_office/officetooffice/segnatura/Anomalia;" } : Jvm.MethodName) method_2_code (1 : Nat) (Option.some (Jvm.ClassFile.FieldType.object "com/example/office_to_office/officetooffice/segnatura/Anomalia"))).before a0 Z = true := hw _ (List.mem_of_getElem? (i := 4) rfl)
theorem W3 {a0 : Array Value} {Z : State} (hw : ∀ d ∈ tables_1, d.before a0 Z = true) : (Jvm.Cond.initialized "com/example/office_to_office/officetooffice/segnatura/AnomaliaInAnswerToInoltroPinLaw").before a0 Z = true := hw _ (List.mem_of_getElem? (i := 3) rfl)
theorem pd_0 : parseMethodDescriptor "(I)Lcom/example/office_to_office/officetooffice/segnatura/Anomalia;" = some ⟨[.int], some (.object "com/example/office_to_office/officetooffice/segnatura/Anomalia")⟩ := by decide +kernel
theorem W1 {a0 : Array Value} {Z : State} (hw : ∀ d ∈ tables_1, d.before a0 Z = true) : (Jvm.Cond.methodLink "com/example/office_to_office/officetooffice/segnatura/AnomaliaInAnswerToInoltroPinLaw" (38 : Nat) ({ cls := "com/example/office_to_office/officetooffice/segnatura/AnomaliaInAnswerToInoltroPinLaw", name := "pick", desc := "(I)Lcom/example/office_to_office/officetooffice/segnatura/Anomalia;" } : Jvm.MethodName)).before a0 Z = true := hw _ (List.mem_of_getElem? (i := 1) rfl)
theorem W2 {a0 : Array Value} {Z : State} (hw : ∀ d ∈ tables_1, d.before a0 Z = true) : (Jvm.Cond.static ({ cls := "com/example/office_to_office/officetooffice/segnatura/AnomaliaInAnswerToInoltroPinLaw", name := "pick", desc := "(I)Lcom/example/office_to_office/officetooffice/segnatura/Anomalia;" } : Jvm.MethodName)).before a0 Z = true := hw _ (List.mem_of_getElem? (i := 2) rfl)
theorem W16 {a0 : Array Value} {Z : State} (hw : ∀ d ∈ tables_1, d.before a0 Z = true) : (Jvm.Cond.code ({ cls := "com/example/office_to_office/officetooffice/segnatura/Anomalia", name := "inAnswerToInoltro", desc := "()Z" } : Jvm.MethodName) prog_20_method_5_code (1 : Nat) (Option.some Jvm.ClassFile.FieldType.boolean)).before a0 Z = true := hw _ (List.mem_of_getElem? (i := 16) rfl)
theorem pd_1 : parseMethodDescriptor "()Z" = some ⟨[], some .boolean⟩ := by decide +kernel
theorem W12 {a0 : Array Value} {Z : State} (hw : ∀ d ∈ tables_1, d.before a0 Z = true) : (Jvm.Cond.methodLink "com/example/office_to_office/officetooffice/segnatura/AnomaliaInAnswerToInoltroPinLaw" (44 : Nat) ({ cls := "com/example/office_to_office/officetooffice/segnatura/Anomalia", name := "inAnswerToInoltro", desc := "()Z" } : Jvm.MethodName)).before a0 Z = true := hw _ (List.mem_of_getElem? (i := 12) rfl)
theorem W14 {a0 : Array Value} {Z : State} (hw : ∀ d ∈ tables_1, d.before a0 Z = true) : (Jvm.Cond.instanceMethod ({ cls := "com/example/office_to_office/officetooffice/segnatura/Anomalia", name := "inAnswerToInoltro", desc := "()Z" } : Jvm.MethodName)).before a0 Z = true := hw _ (List.mem_of_getElem? (i := 14) rfl)
theorem W15 {a0 : Array Value} {Z : State} (hw : ∀ d ∈ tables_1, d.before a0 Z = true) : (Jvm.Cond.selects "com/example/office_to_office/officetooffice/segnatura/Anomalia" ({ cls := "com/example/office_to_office/officetooffice/segnatura/Anomalia", name := "inAnswerToInoltro", desc := "()Z" } : Jvm.MethodName) ({ cls := "com/example/office_to_office/officetooffice/segnatura/Anomalia", name := "inAnswerToInoltro", desc := "()Z" } : Jvm.MethodName)).before a0 Z = true := hw _ (List.mem_of_getElem? (i := 15) rfl)
theorem W29 {a0 : Array Value} {Z : State} (hw : ∀ d ∈ tables_1, d.before a0 Z = true) : (Jvm.Cond.code ({ cls := "com/example/office_to_office/officetooffice/segnatura/Anomalia", name := "inConferma", desc := "()Z" } : Jvm.MethodName) prog_20_method_6_code (1 : Nat) (Option.some Jvm.ClassFile.FieldType.boolean)).before a0 Z = true := hw _ (List.mem_of_getElem? (i := 29) rfl)
theorem W25 {a0 : Array Value} {Z : State} (hw : ∀ d ∈ tables_1, d.before a0 Z = true) : (Jvm.Cond.methodLink "com/example/office_to_office/officetooffice/segnatura/AnomaliaInAnswerToInoltroPinLaw" (48 : Nat) ({ cls := "com/example/office_to_office/officetooffice/segnatura/Anomalia", name := "inConferma", desc := "()Z" } : Jvm.MethodName)).before a0 Z = true := hw _ (List.mem_of_getElem? (i := 25) rfl)
theorem W27 {a0 : Array Value} {Z : State} (hw : ∀ d ∈ tables_1, d.before a0 Z = true) : (Jvm.Cond.instanceMethod ({ cls := "com/example/office_to_office/officetooffice/segnatura/Anomalia", name := "inConferma", desc := "()Z" } : Jvm.MethodName)).before a0 Z = true := hw _ (List.mem_of_getElem? (i := 27) rfl)
theorem W28 {a0 : Array Value} {Z : State} (hw : ∀ d ∈ tables_1, d.before a0 Z = true) : (Jvm.Cond.selects "com/example/office_to_office/officetooffice/segnatura/Anomalia" ({ cls := "com/example/office_to_office/officetooffice/segnatura/Anomalia", name := "inConferma", desc := "()Z" } : Jvm.MethodName) ({ cls := "com/example/office_to_office/officetooffice/segnatura/Anomalia", name := "inConferma", desc := "()Z" } : Jvm.MethodName)).before a0 Z = true := hw _ (List.mem_of_getElem? (i := 28) rfl)
set_option maxRecDepth 65536 in
set_option maxHeartbeats 40000000 in
theorem rm0 (l : Launch) (Z : State) (a0 : Array Value) (hw : ∀ d ∈ tables_1, d.before a0 Z = true) (ws : List Jvm.Cond) (p0 : Int32) (r_IRRICEVIBILE r_VALIDAZIONE_FIRMA r_ANOMALIA_IMPRONTE r_CONFERMA r_INOLTRO r_DOCUMENTI_NON_LEGGIBILI r_IRRICEVIBILITA r_ANNULMENT r_FIRMA_DOCUMENTI r_IDENTIFICATORE_NON_TROVATO r_SIGILLO_DOCUMENTI r_MARCA_DOCUMENTI : Addr) (h0 : Heap) (n0 : Nat) (Z0 : n0 ≤ h0.size) (S_r_IRRICEVIBILE : Sta Z h0 "com/example/office_to_office/officetooffice/segnatura/Anomalia" "IRRICEVIBILE" "Lcom/example/office_to_office/officetooffice/segnatura/Anomalia;" (.ref r_IRRICEVIBILE)) (E_r_IRRICEVIBILE : Exa Z h0 r_IRRICEVIBILE "com/example/office_to_office/officetooffice/segnatura/Anomalia") (S_r_VALIDAZIONE_FIRMA : Sta Z h0 "com/example/office_to_office/officetooffice/segnatura/Anomalia" "VALIDAZIONE_FIRMA" "Lcom/example/office_to_office/officetooffice/segnatura/Anomalia;" (.ref r_VALIDAZIONE_FIRMA)) (E_r_VALIDAZIONE_FIRMA : Exa Z h0 r_VALIDAZIONE_FIRMA "com/example/office_to_office/officetooffice/segnatura/Anomalia") (F_r_IRRICEVIBILE_ordinal : Fld Z h0 r_IRRICEVIBILE "java/lang/Enum" "ordinal" "I" (.int (0 : Int32))) (F_r_VALIDAZIONE_FIRMA_ordinal : Fld Z h0 r_VALIDAZIONE_FIRMA "java/lang/Enum" "ordinal" "I" (.int (1 : Int32))) (S_r_ANOMALIA_IMPRONTE : Sta Z h0 "com/example/office_to_office/officetooffice/segnatura/Anomalia" "ANOMALIA_IMPRONTE" "Lcom/example/office_to_office/officetooffice/segnatura/Anomalia;" (.ref r_ANOMALIA_IMPRONTE)) (E_r_ANOMALIA_IMPRONTE : Exa Z h0 r_ANOMALIA_IMPRONTE "com/example/office_to_office/officetooffice/segnatura/Anomalia") (F_r_ANOMALIA_IMPRONTE_ordinal : Fld Z h0 r_ANOMALIA_IMPRONTE "java/lang/Enum" "ordinal" "I" (.int (2 : Int32))) (S_r_CONFERMA : Sta Z h0 "com/example/office_to_office/officetooffice/segnatura/Anomalia$Carrier" "CONFERMA" "Lcom/example/office_to_office/officetooffice/segnatura/Anomalia$Carrier;" (.ref r_CONFERMA)) (E_r_CONFERMA : Exa Z h0 r_CONFERMA "com/example/office_to_office/officetooffice/segnatura/Anomalia$Carrier") (F_r_IRRICEVIBILE_carrier : Fld Z h0 r_IRRICEVIBILE "com/example/office_to_office/officetooffice/segnatura/Anomalia" "carrier" "Lcom/example/office_to_office/officetooffice/segnatura/Anomalia$Carrier;" (.ref r_CONFERMA)) (S_r_INOLTRO : Sta Z h0 "com/example/office_to_office/officetooffice/segnatura/Anomalia$Carrier" "INOLTRO" "Lcom/example/office_to_office/officetooffice/segnatura/Anomalia$Carrier;" (.ref r_INOLTRO)) (E_r_INOLTRO : Exa Z h0 r_INOLTRO "com/example/office_to_office/officetooffice/segnatura/Anomalia$Carrier") (F_r_CONFERMA_ordinal : Fld Z h0 r_CONFERMA "java/lang/Enum" "ordinal" "I" (.int (1 : Int32))) (F_r_INOLTRO_ordinal : Fld Z h0 r_INOLTRO "java/lang/Enum" "ordinal" "I" (.int (0 : Int32))) (S_r_DOCUMENTI_NON_LEGGIBILI : Sta Z h0 "com/example/office_to_office/officetooffice/segnatura/Anomalia" "DOCUMENTI_NON_LEGGIBILI" "Lcom/example/office_to_office/officetooffice/segnatura/Anomalia;" (.ref r_DOCUMENTI_NON_LEGGIBILI)) (E_r_DOCUMENTI_NON_LEGGIBILI : Exa Z h0 r_DOCUMENTI_NON_LEGGIBILI "com/example/office_to_office/officetooffice/segnatura/Anomalia") (F_r_DOCUMENTI_NON_LEGGIBILI_ordinal : Fld Z h0 r_DOCUMENTI_NON_LEGGIBILI "java/lang/Enum" "ordinal" "I" (.int (3 : Int32))) (F_r_DOCUMENTI_NON_LEGGIBILI_carrier : Fld Z h0 r_DOCUMENTI_NON_LEGGIBILI "com/example/office_to_office/officetooffice/segnatura/Anomalia" "carrier" "Lcom/example/office_to_office/officetooffice/segnatura/Anomalia$Carrier;" (.ref r_CONFERMA)) (F_r_ANOMALIA_IMPRONTE_carrier : Fld Z h0 r_ANOMALIA_IMPRONTE "com/example/office_to_office/officetooffice/segnatura/Anomalia" "carrier" "Lcom/example/office_to_office/officetooffice/segnatura/Anomalia$Carrier;" (.ref r_INOLTRO)) (F_r_VALIDAZIONE_FIRMA_carrier : Fld Z h0 r_VALIDAZIONE_FIRMA "com/example/office_to_office/officetooffice/segnatura/Anomalia" "carrier" "Lcom/example/office_to_office/officetooffice/segnatura/Anomalia$Carrier;" (.ref r_INOLTRO)) (S_r_IRRICEVIBILITA : Sta Z h0 "com/example/office_to_office/officetooffice/segnatura/Anomalia" "IRRICEVIBILITA" "Lcom/example/office_to_office/officetooffice/segnatura/Anomalia;" (.ref r_IRRICEVIBILITA)) (E_r_IRRICEVIBILITA : Exa Z h0 r_IRRICEVIBILITA "com/example/office_to_office/officetooffice/segnatura/Anomalia") (F_r_IRRICEVIBILITA_ordinal : Fld Z h0 r_IRRICEVIBILITA "java/lang/Enum" "ordinal" "I" (.int (7 : Int32))) (S_r_ANNULMENT : Sta Z h0 "com/example/office_to_office/officetooffice/segnatura/Anomalia$Carrier" "ANNULMENT" "Lcom/example/office_to_office/officetooffice/segnatura/Anomalia$Carrier;" (.ref r_ANNULMENT)) (E_r_ANNULMENT : Exa Z h0 r_ANNULMENT "com/example/office_to_office/officetooffice/segnatura/Anomalia$Carrier") (F_r_IRRICEVIBILITA_carrier : Fld Z h0 r_IRRICEVIBILITA "com/example/office_to_office/officetooffice/segnatura/Anomalia" "carrier" "Lcom/example/office_to_office/officetooffice/segnatura/Anomalia$Carrier;" (.ref r_ANNULMENT)) (F_r_ANNULMENT_ordinal : Fld Z h0 r_ANNULMENT "java/lang/Enum" "ordinal" "I" (.int (2 : Int32))) (S_r_FIRMA_DOCUMENTI : Sta Z h0 "com/example/office_to_office/officetooffice/segnatura/Anomalia" "FIRMA_DOCUMENTI" "Lcom/example/office_to_office/officetooffice/segnatura/Anomalia;" (.ref r_FIRMA_DOCUMENTI)) (E_r_FIRMA_DOCUMENTI : Exa Z h0 r_FIRMA_DOCUMENTI "com/example/office_to_office/officetooffice/segnatura/Anomalia") (F_r_FIRMA_DOCUMENTI_ordinal : Fld Z h0 r_FIRMA_DOCUMENTI "java/lang/Enum" "ordinal" "I" (.int (4 : Int32))) (F_r_FIRMA_DOCUMENTI_carrier : Fld Z h0 r_FIRMA_DOCUMENTI "com/example/office_to_office/officetooffice/segnatura/Anomalia" "carrier" "Lcom/example/office_to_office/officetooffice/segnatura/Anomalia$Carrier;" (.ref r_CONFERMA)) (S_r_IDENTIFICATORE_NON_TROVATO : Sta Z h0 "com/example/office_to_office/officetooffice/segnatura/Anomalia" "IDENTIFICATORE_NON_TROVATO" "Lcom/example/office_to_office/officetooffice/segnatura/Anomalia;" (.ref r_IDENTIFICATORE_NON_TROVATO)) (E_r_IDENTIFICATORE_NON_TROVATO : Exa Z h0 r_IDENTIFICATORE_NON_TROVATO "com/example/office_to_office/officetooffice/segnatura/Anomalia") (F_r_IDENTIFICATORE_NON_TROVATO_ordinal : Fld Z h0 r_IDENTIFICATORE_NON_TROVATO "java/lang/Enum" "ordinal" "I" (.int (8 : Int32))) (F_r_IDENTIFICATORE_NON_TROVATO_carrier : Fld Z h0 r_IDENTIFICATORE_NON_TROVATO "com/example/office_to_office/officetooffice/segnatura/Anomalia" "carrier" "Lcom/example/office_to_office/officetooffice/segnatura/Anomalia$Carrier;" (.ref r_ANNULMENT)) (S_r_SIGILLO_DOCUMENTI : Sta Z h0 "com/example/office_to_office/officetooffice/segnatura/Anomalia" "SIGILLO_DOCUMENTI" "Lcom/example/office_to_office/officetooffice/segnatura/Anomalia;" (.ref r_SIGILLO_DOCUMENTI)) (E_r_SIGILLO_DOCUMENTI : Exa Z h0 r_SIGILLO_DOCUMENTI "com/example/office_to_office/officetooffice/segnatura/Anomalia") (F_r_SIGILLO_DOCUMENTI_ordinal : Fld Z h0 r_SIGILLO_DOCUMENTI "java/lang/Enum" "ordinal" "I" (.int (6 : Int32))) (F_r_SIGILLO_DOCUMENTI_carrier : Fld Z h0 r_SIGILLO_DOCUMENTI "com/example/office_to_office/officetooffice/segnatura/Anomalia" "carrier" "Lcom/example/office_to_office/officetooffice/segnatura/Anomalia$Carrier;" (.ref r_CONFERMA)) (S_r_MARCA_DOCUMENTI : Sta Z h0 "com/example/office_to_office/officetooffice/segnatura/Anomalia" "MARCA_DOCUMENTI" "Lcom/example/office_to_office/officetooffice/segnatura/Anomalia;" (.ref r_MARCA_DOCUMENTI)) (E_r_MARCA_DOCUMENTI : Exa Z h0 r_MARCA_DOCUMENTI "com/example/office_to_office/officetooffice/segnatura/Anomalia") (F_r_MARCA_DOCUMENTI_ordinal : Fld Z h0 r_MARCA_DOCUMENTI "java/lang/Enum" "ordinal" "I" (.int (5 : Int32))) (F_r_MARCA_DOCUMENTI_carrier : Fld Z h0 r_MARCA_DOCUMENTI "com/example/office_to_office/officetooffice/segnatura/Anomalia" "carrier" "Lcom/example/office_to_office/officetooffice/segnatura/Anomalia$Carrier;" (.ref r_CONFERMA)) :
    MetFree l x (head1 (Jvm.Cond.code x code maxLocals ret :: ws) room_1) (fun aa U => aa = #[(.int p0)] ∧ Z.Warmed39 U.vm ∧ U.heap = h0) (fun _ _ _ _ _ => True) (fun _ U o U' => ∃ v L, o = .returned v ∧ Q0 n0 v U'.heap L ∧ FrameEnd U o U' L 0 0) := by
  refine own_body pf_3 ?_
  intro p e s m below meth c s₁ hx hby hml hown hnm hlk hret hZ X0 e0
  have N0 : Fr n0 [] := Fr.nil n0
  refine own_go (f' := (mkF m 0 #[.val (.int p0), .unset, .unset, .unset, .unset] [])) (fun t k => castTop (ef_rm0 m p0) k) ?_
  refine own_iloadN X0 hx (pc' := 1) (hb hby at_0) rfl rfl ?_
  refine own_ldcI X0 hx (pc' := 3) hZ hown (W0 hw) (hb hby at_1) rfl ?_
  refine own_iand X0 hx (pc' := 4) (hb hby at_3) rfl rfl ?_
  refine own_bipush X0 hx (pc' := 6) (9 : Int32) (hb hby at_4) rfl rfl ?_
  refine own_irem X0 hx (pc' := 7) (hb hby at_6) (by decide) rfl ?_
  refine own_istoreN X0 hx (pc' := 8) (Ls' := #[.val (.int p0), .val (.int ((p0 &&& (2147483647 : Int32)) % (9 : Int32))), .unset, .unset, .unset]) (hb hby at_7) rfl rfl ?_
  have hk : ((p0 &&& (2147483647 : Int32)) % (9 : Int32)) = (0 : Int32) ∨ ((p0 &&& (2147483647 : Int32)) % (9 : Int32)) = (1 : Int32) ∨ ((p0 &&& (2147483647 : Int32)) % (9 : Int32)) = (2 : Int32) ∨ ((p0 &&& (2147483647 : Int32)) % (9 : Int32)) = (3 : Int32) ∨ ((p0 &&& (2147483647 : Int32)) % (9 : Int32)) = (4 : Int32) ∨ ((p0 &&& (2147483647 : Int32)) % (9 : Int32)) = (5 : Int32) ∨ ((p0 &&& (2147483647 : Int32)) % (9 : Int32)) = (6 : Int32) ∨ ((p0 &&& (2147483647 : Int32)) % (9 : Int32)) = (7 : Int32) ∨ ((p0 &&& (2147483647 : Int32)) % (9 : Int32)) = (8 : Int32) := by
    have q1 := c_mask p0 (2147483647 : Int32) 31 (by decide) (by decide)
    have q2 := (c_irem (p0 &&& (2147483647 : Int32)) (9 : Int32) 9 (by decide)).1 (by omega)
    simp only [← Int32.toInt_inj, own_t32_0, own_t32_1, own_t32_2, own_t32_3, own_t32_4, own_t32_5, own_t32_6, own_t32_7, own_t32_8, own_t32_9]
    omega
  rcases hk with hk | hk | hk | hk | hk | hk | hk | hk | hk
  · rw [hk]
    refine own_iloadN X0 hx (pc' := 9) (hb hby at_8) rfl rfl ?_
    refine own_callS X0 hx (pc' := 12) hZ hown (W1 hw) (W2 hw) (W3 hw) (W4 hw) (by decide) (rmPick l Z a0 hw [] (0 : Int32) r_IRRICEVIBILE r_VALIDAZIONE_FIRMA r_ANOMALIA_IMPRONTE r_DOCUMENTI_NON_LEGGIBILI r_FIRMA_DOCUMENTI r_MARCA_DOCUMENTI r_SIGILLO_DOCUMENTI r_IRRICEVIBILITA r_IDENTIFICATORE_NON_TROVATO h0 n0 Z0 S_r_IRRICEVIBILE S_r_VALIDAZIONE_FIRMA S_r_ANOMALIA_IMPRONTE S_r_DOCUMENTI_NON_LEGGIBILI S_r_IRRICEVIBILITA S_r_FIRMA_DOCUMENTI S_r_IDENTIFICATORE_NON_TROVATO S_r_SIGILLO_DOCUMENTI S_r_MARCA_DOCUMENTI) e0 0 (by decide) (by decide) (by decide) (by decide) [(.int (0 : Int32))] [] (by rw [hml]; rfl) (lenOf pd_0 rfl) rfl rfl (Nat.le_of_eq rfl) (hb hby at_9) rfl (fun v1 T1 L1 X1 hQ1 => ?_)
    obtain ⟨hv1, Nq1, e1⟩ := hQ1
    have N2 := Fr.app N0 Nq1
    rw [show own_pick (0 : Int32) r_IRRICEVIBILE r_VALIDAZIONE_FIRMA r_ANOMALIA_IMPRONTE r_DOCUMENTI_NON_LEGGIBILI r_FIRMA_DOCUMENTI r_MARCA_DOCUMENTI r_SIGILLO_DOCUMENTI r_IRRICEVIBILITA r_IDENTIFICATORE_NON_TROVATO = r_IRRICEVIBILE from by simp [own_pick]] at hv1
    subst hv1
    show own_G p.tables e below _ T1 (mkF m 12 #[.val (.int p0), .val (.int (0 : Int32)), .unset, .unset, .unset] [(.ref r_IRRICEVIBILE)])
    refine own_astoreN X1 hx (pc' := 13) (Ls' := #[.val (.int p0), .val (.int (0 : Int32)), .val (.ref r_IRRICEVIBILE), .unset, .unset]) (hb hby at_12) rfl rfl rfl ?_
    refine own_aloadN X1 hx (pc' := 14) (hb hby at_13) rfl rfl rfl ?_
    refine own_getS X1 hx (pc' := 17) hZ hown (host := "") (Or.inl (W8 hw)) Via.refl e1 S_r_VALIDAZIONE_FIRMA (hb hby at_14) rfl (fun T3 X3 e3 => ?_)
    refine own_acmp X3 hx (pc' := 20) false (hb hby at_17) rfl rfl (decide_eq_false fun q => (Fld.ne F_r_IRRICEVIBILE_ordinal F_r_VALIDAZIONE_FIRMA_ordinal (by simp)) (Value.ref.inj q)) (by decide) (by decide) ?_
    refine own_aloadN X3 hx (pc' := 21) (hb hby at_20) rfl rfl rfl ?_
    refine own_getS X3 hx (pc' := 24) hZ hown (host := "") (Or.inl (W10 hw)) Via.refl e3 S_r_ANOMALIA_IMPRONTE (hb hby at_21) rfl (fun T4 X4 e4 => ?_)
    refine own_acmp X4 hx (pc' := 31) false (hb hby at_24) rfl rfl (decide_eq_false fun q => (Fld.ne F_r_IRRICEVIBILE_ordinal F_r_ANOMALIA_IMPRONTE_ordinal (by simp)) (Value.ref.inj q)) (by decide) (by decide) ?_
    refine own_iconst X4 hx (pc' := 32) (0 : Int32) (hb hby at_31) rfl rfl ?_
    refine own_istoreN X4 hx (pc' := 33) (Ls' := #[.val (.int p0), .val (.int (0 : Int32)), .val (.ref r_IRRICEVIBILE), .val (.int (0 : Int32)), .unset]) (hb hby at_32) rfl rfl ?_
    refine own_aloadN X4 hx (pc' := 34) (hb hby at_33) rfl rfl rfl ?_
    refine own_callV X4 hx (pc' := 37) hZ hown (W12 hw) (W14 hw) (W15 hw) (W16 hw) (W6 hw) (by decide) (rm_inAnswerToInoltro l Z a0 hw [] r_IRRICEVIBILE r_CONFERMA r_INOLTRO h0 n0 Z0 F_r_IRRICEVIBILE_carrier S_r_INOLTRO) e4 E_r_IRRICEVIBILE 0 (by decide) (by decide) (by decide) (by decide) [] [] (by rw [hml]; rfl) (lenOf pd_1 rfl) rfl rfl (Nat.le_of_eq rfl) (hb hby at_34) rfl (fun v5 T5 L5 X5 hQ5 => ?_)
    obtain ⟨hv5, Nq5, e5⟩ := hQ5
    have N6 := Fr.app N2 Nq5
    rw [if_neg (Fld.ne F_r_CONFERMA_ordinal F_r_INOLTRO_ordinal (by simp))] at hv5
    subst hv5
    show own_G p.tables e below _ T5 (mkF m 37 #[.val (.int p0), .val (.int (0 : Int32)), .val (.ref r_IRRICEVIBILE), .val (.int (0 : Int32)), .unset] [(.int (0 : Int32))])
    refine own_istore X5 hx (pc' := 39) (Ls' := #[.val (.int p0), .val (.int (0 : Int32)), .val (.ref r_IRRICEVIBILE), .val (.int (0 : Int32)), .val (.int (0 : Int32))]) (hb hby at_37) rfl rfl ?_
    refine own_iload X5 hx (pc' := 41) (hb hby at_39) rfl rfl ?_
    refine own_iloadN X5 hx (pc' := 42) (hb hby at_41) rfl rfl ?_
    refine own_icmpYes X5 hx (pc' := 47) (hb hby at_42) (teq (by decide : (0 : Int32) = (0 : Int32))).1 (by decide) (by decide) ?_
    refine own_iload X5 hx (pc' := 49) (hb hby at_47) rfl rfl ?_
    refine own_ifYes X5 hx (pc' := 61) (hb hby at_49) (teq (by decide : (0 : Int32) = (0 : Int32))).1 (by decide) (by decide) ?_
    refine own_iconst X5 hx (pc' := 62) (1 : Int32) (hb hby at_61) rfl rfl ?_
    refine own_retN X5 hx hlk hret (by simp) (hb hby at_62) (by decide) (by decide) ?_
    exact ⟨rfl, N6⟩
  · rw [hk]
    refine own_iloadN X0 hx (pc' := 9) (hb hby at_8) rfl rfl ?_
    refine own_callS X0 hx (pc' := 12) hZ hown (W1 hw) (W2 hw) (W3 hw) (W4 hw) (by decide) (rmPick l Z a0 hw [] (1 : Int32) r_IRRICEVIBILE r_VALIDAZIONE_FIRMA r_ANOMALIA_IMPRONTE r_DOCUMENTI_NON_LEGGIBILI r_FIRMA_DOCUMENTI r_MARCA_DOCUMENTI r_SIGILLO_DOCUMENTI r_IRRICEVIBILITA r_IDENTIFICATORE_NON_TROVATO h0 n0 Z0 S_r_IRRICEVIBILE S_r_VALIDAZIONE_FIRMA S_r_ANOMALIA_IMPRONTE S_r_DOCUMENTI_NON_LEGGIBILI S_r_IRRICEVIBILITA S_r_FIRMA_DOCUMENTI S_r_IDENTIFICATORE_NON_TROVATO S_r_SIGILLO_DOCUMENTI S_r_MARCA_DOCUMENTI) e0 0 (by decide) (by decide) (by decide) (by decide) [(.int (1 : Int32))] [] (by rw [hml]; rfl) (lenOf pd_0 rfl) rfl rfl (Nat.le_of_eq rfl) (hb hby at_9) rfl (fun v7 T7 L7 X7 hQ7 => ?_)
    obtain ⟨hv7, Nq7, e7⟩ := hQ7
    have N8 := Fr.app N0 Nq7
    rw [show own_pick (1 : Int32) r_IRRICEVIBILE r_VALIDAZIONE_FIRMA r_ANOMALIA_IMPRONTE r_DOCUMENTI_NON_LEGGIBILI r_FIRMA_DOCUMENTI r_MARCA_DOCUMENTI r_SIGILLO_DOCUMENTI r_IRRICEVIBILITA r_IDENTIFICATORE_NON_TROVATO = r_VALIDAZIONE_FIRMA from by simp [own_pick]] at hv7
    subst hv7
    show own_G p.tables e below _ T7 (mkF m 12 #[.val (.int p0), .val (.int (1 : Int32)), .unset, .unset, .unset] [(.ref r_VALIDAZIONE_FIRMA)])
    refine own_astoreN X7 hx (pc' := 13) (Ls' := #[.val (.int p0), .val (.int (1 : Int32)), .val (.ref r_VALIDAZIONE_FIRMA), .unset, .unset]) (hb hby at_12) rfl rfl rfl ?_
    refine own_aloadN X7 hx (pc' := 14) (hb hby at_13) rfl rfl rfl ?_
    refine own_getS X7 hx (pc' := 17) hZ hown (host := "") (Or.inl (W8 hw)) Via.refl e7 S_r_VALIDAZIONE_FIRMA (hb hby at_14) rfl (fun T9 X9 e9 => ?_)
    refine own_acmp X9 hx (pc' := 27) true (hb hby at_17) rfl rfl (decide_eq_true rfl) (by decide) (by decide) ?_
    refine own_iconst X9 hx (pc' := 28) (1 : Int32) (hb hby at_27) rfl rfl ?_
    refine own_goto X9 hx (pc' := 32) (hb hby at_28) (by decide) (by decide) ?_
    refine own_istoreN X9 hx (pc' := 33) (Ls' := #[.val (.int p0), .val (.int (1 : Int32)), .val (.ref r_VALIDAZIONE_FIRMA), .val (.int (1 : Int32)), .unset]) (hb hby at_32) rfl rfl ?_
    refine own_aloadN X9 hx (pc' := 34) (hb hby at_33) rfl rfl rfl ?_
    refine own_callV X9 hx (pc' := 37) hZ hown (W12 hw) (W14 hw) (W15 hw) (W16 hw) (W6 hw) (by decide) (rm_inAnswerToInoltro l Z a0 hw [] r_VALIDAZIONE_FIRMA r_INOLTRO r_INOLTRO h0 n0 Z0 F_r_VALIDAZIONE_FIRMA_carrier S_r_INOLTRO) e9 E_r_VALIDAZIONE_FIRMA 0 (by decide) (by decide) (by decide) (by decide) [] [] (by rw [hml]; rfl) (lenOf pd_1 rfl) rfl rfl (Nat.le_of_eq rfl) (hb hby at_34) rfl (fun v10 T10 L10 X10 hQ10 => ?_)
    obtain ⟨hv10, Nq10, e10⟩ := hQ10
    have N11 := Fr.app N8 Nq10
    rw [if_pos rfl] at hv10
    subst hv10
    show own_G p.tables e below _ T10 (mkF m 37 #[.val (.int p0), .val (.int (1 : Int32)), .val (.ref r_VALIDAZIONE_FIRMA), .val (.int (1 : Int32)), .unset] [(.int (1 : Int32))])
    refine own_istore X10 hx (pc' := 39) (Ls' := #[.val (.int p0), .val (.int (1 : Int32)), .val (.ref r_VALIDAZIONE_FIRMA), .val (.int (1 : Int32)), .val (.int (1 : Int32))]) (hb hby at_37) rfl rfl ?_
    refine own_iload X10 hx (pc' := 41) (hb hby at_39) rfl rfl ?_
    refine own_iloadN X10 hx (pc' := 42) (hb hby at_41) rfl rfl ?_
    refine own_icmpYes X10 hx (pc' := 47) (hb hby at_42) (teq (by decide : (1 : Int32) = (1 : Int32))).1 (by decide) (by decide) ?_
    refine own_iload X10 hx (pc' := 49) (hb hby at_47) rfl rfl ?_
    refine own_ifNo X10 hx (pc' := 52) (hb hby at_49) (feq (by decide : ¬ ((1 : Int32) = (0 : Int32)))).1 rfl ?_
    refine own_aloadN X10 hx (pc' := 53) (hb hby at_52) rfl rfl rfl ?_
    refine own_callV X10 hx (pc' := 56) hZ hown (W25 hw) (W27 hw) (W28 hw) (W29 hw) (W6 hw) (by decide) (rm_inConferma l Z a0 hw [] r_VALIDAZIONE_FIRMA r_INOLTRO r_CONFERMA h0 n0 Z0 F_r_VALIDAZIONE_FIRMA_carrier S_r_CONFERMA) e10 E_r_VALIDAZIONE_FIRMA 0 (by decide) (by decide) (by decide) (by decide) [] [] (by rw [hml]; rfl) (lenOf pd_1 rfl) rfl rfl (Nat.le_of_eq rfl) (hb hby at_53) rfl (fun v12 T12 L12 X12 hQ12 => ?_)
    obtain ⟨hv12, Nq12, e12⟩ := hQ12
    have N13 := Fr.app N11 Nq12
    rw [if_neg (Fld.ne F_r_INOLTRO_ordinal F_r_CONFERMA_ordinal (by simp))] at hv12
    subst hv12
    show own_G p.tables e below _ T12 (mkF m 56 #[.val (.int p0), .val (.int (1 : Int32)), .val (.ref r_VALIDAZIONE_FIRMA), .val (.int (1 : Int32)), .val (.int (1 : Int32))] [(.int (0 : Int32))])
    refine own_ifYes X12 hx (pc' := 61) (hb hby at_56) (teq (by decide : (0 : Int32) = (0 : Int32))).1 (by decide) (by decide) ?_
    refine own_iconst X12 hx (pc' := 62) (1 : Int32) (hb hby at_61) rfl rfl ?_
    refine own_retN X12 hx hlk hret (by simp) (hb hby at_62) (by decide) (by decide) ?_
    exact ⟨rfl, N13⟩
  · rw [hk]
    refine own_iloadN X0 hx (pc' := 9) (hb hby at_8) rfl rfl ?_
    refine own_callS X0 hx (pc' := 12) hZ hown (W1 hw) (W2 hw) (W3 hw) (W4 hw) (by decide) (rmPick l Z a0 hw [] (2 : Int32) r_IRRICEVIBILE r_VALIDAZIONE_FIRMA r_ANOMALIA_IMPRONTE r_DOCUMENTI_NON_LEGGIBILI r_FIRMA_DOCUMENTI r_MARCA_DOCUMENTI r_SIGILLO_DOCUMENTI r_IRRICEVIBILITA r_IDENTIFICATORE_NON_TROVATO h0 n0 Z0 S_r_IRRICEVIBILE S_r_VALIDAZIONE_FIRMA S_r_ANOMALIA_IMPRONTE S_r_DOCUMENTI_NON_LEGGIBILI S_r_IRRICEVIBILITA S_r_FIRMA_DOCUMENTI S_r_IDENTIFICATORE_NON_TROVATO S_r_SIGILLO_DOCUMENTI S_r_MARCA_DOCUMENTI) e0 0 (by decide) (by decide) (by decide) (by decide) [(.int (2 : Int32))] [] (by rw [hml]; rfl) (lenOf pd_0 rfl) rfl rfl (Nat.le_of_eq rfl) (hb hby at_9) rfl (fun v14 T14 L14 X14 hQ14 => ?_)
    obtain ⟨hv14, Nq14, e14⟩ := hQ14
    have N15 := Fr.app N0 Nq14
    rw [show own_pick (2 : Int32) r_IRRICEVIBILE r_VALIDAZIONE_FIRMA r_ANOMALIA_IMPRONTE r_DOCUMENTI_NON_LEGGIBILI r_FIRMA_DOCUMENTI r_MARCA_DOCUMENTI r_SIGILLO_DOCUMENTI r_IRRICEVIBILITA r_IDENTIFICATORE_NON_TROVATO = r_ANOMALIA_IMPRONTE from by simp [own_pick]] at hv14
    subst hv14
    show own_G p.tables e below _ T14 (mkF m 12 #[.val (.int p0), .val (.int (2 : Int32)), .unset, .unset, .unset] [(.ref r_ANOMALIA_IMPRONTE)])
    refine own_astoreN X14 hx (pc' := 13) (Ls' := #[.val (.int p0), .val (.int (2 : Int32)), .val (.ref r_ANOMALIA_IMPRONTE), .unset, .unset]) (hb hby at_12) rfl rfl rfl ?_
    refine own_aloadN X14 hx (pc' := 14) (hb hby at_13) rfl rfl rfl ?_
    refine own_getS X14 hx (pc' := 17) hZ hown (host := "") (Or.inl (W8 hw)) Via.refl e14 S_r_VALIDAZIONE_FIRMA (hb hby at_14) rfl (fun T16 X16 e16 => ?_)
    refine own_acmp X16 hx (pc' := 20) false (hb hby at_17) rfl rfl (decide_eq_false fun q => (Fld.ne F_r_ANOMALIA_IMPRONTE_ordinal F_r_VALIDAZIONE_FIRMA_ordinal (by simp)) (Value.ref.inj q)) (by decide) (by decide) ?_
    refine own_aloadN X16 hx (pc' := 21) (hb hby at_20) rfl rfl rfl ?_
    refine own_getS X16 hx (pc' := 24) hZ hown (host := "") (Or.inl (W10 hw)) Via.refl e16 S_r_ANOMALIA_IMPRONTE (hb hby at_21) rfl (fun T17 X17 e17 => ?_)
    refine own_acmp X17 hx (pc' := 27) true (hb hby at_24) rfl rfl (decide_eq_true rfl) (by decide) (by decide) ?_
    refine own_iconst X17 hx (pc' := 28) (1 : Int32) (hb hby at_27) rfl rfl ?_
    refine own_goto X17 hx (pc' := 32) (hb hby at_28) (by decide) (by decide) ?_
    refine own_istoreN X17 hx (pc' := 33) (Ls' := #[.val (.int p0), .val (.int (2 : Int32)), .val (.ref r_ANOMALIA_IMPRONTE), .val (.int (1 : Int32)), .unset]) (hb hby at_32) rfl rfl ?_
    refine own_aloadN X17 hx (pc' := 34) (hb hby at_33) rfl rfl rfl ?_
    refine own_callV X17 hx (pc' := 37) hZ hown (W12 hw) (W14 hw) (W15 hw) (W16 hw) (W6 hw) (by decide) (rm_inAnswerToInoltro l Z a0 hw [] r_ANOMALIA_IMPRONTE r_INOLTRO r_INOLTRO h0 n0 Z0 F_r_ANOMALIA_IMPRONTE_carrier S_r_INOLTRO) e17 E_r_ANOMALIA_IMPRONTE 0 (by decide) (by decide) (by decide) (by decide) [] [] (by rw [hml]; rfl) (lenOf pd_1 rfl) rfl rfl (Nat.le_of_eq rfl) (hb hby at_34) rfl (fun v18 T18 L18 X18 hQ18 => ?_)
    obtain ⟨hv18, Nq18, e18⟩ := hQ18
    have N19 := Fr.app N15 Nq18
    rw [if_pos rfl] at hv18
    subst hv18
    show own_G p.tables e below _ T18 (mkF m 37 #[.val (.int p0), .val (.int (2 : Int32)), .val (.ref r_ANOMALIA_IMPRONTE), .val (.int (1 : Int32)), .unset] [(.int (1 : Int32))])
    refine own_istore X18 hx (pc' := 39) (Ls' := #[.val (.int p0), .val (.int (2 : Int32)), .val (.ref r_ANOMALIA_IMPRONTE), .val (.int (1 : Int32)), .val (.int (1 : Int32))]) (hb hby at_37) rfl rfl ?_
    refine own_iload X18 hx (pc' := 41) (hb hby at_39) rfl rfl ?_
    refine own_iloadN X18 hx (pc' := 42) (hb hby at_41) rfl rfl ?_
    refine own_icmpYes X18 hx (pc' := 47) (hb hby at_42) (teq (by decide : (1 : Int32) = (1 : Int32))).1 (by decide) (by decide) ?_
    refine own_iload X18 hx (pc' := 49) (hb hby at_47) rfl rfl ?_
    refine own_ifNo X18 hx (pc' := 52) (hb hby at_49) (feq (by decide : ¬ ((1 : Int32) = (0 : Int32)))).1 rfl ?_
    refine own_aloadN X18 hx (pc' := 53) (hb hby at_52) rfl rfl rfl ?_
    refine own_callV X18 hx (pc' := 56) hZ hown (W25 hw) (W27 hw) (W28 hw) (W29 hw) (W6 hw) (by decide) (rm_inConferma l Z a0 hw [] r_ANOMALIA_IMPRONTE r_INOLTRO r_CONFERMA h0 n0 Z0 F_r_ANOMALIA_IMPRONTE_carrier S_r_CONFERMA) e18 E_r_ANOMALIA_IMPRONTE 0 (by decide) (by decide) (by decide) (by decide) [] [] (by rw [hml]; rfl) (lenOf pd_1 rfl) rfl rfl (Nat.le_of_eq rfl) (hb hby at_53) rfl (fun v20 T20 L20 X20 hQ20 => ?_)
    obtain ⟨hv20, Nq20, e20⟩ := hQ20
    have N21 := Fr.app N19 Nq20
    rw [if_neg (Fld.ne F_r_INOLTRO_ordinal F_r_CONFERMA_ordinal (by simp))] at hv20
    subst hv20
    show own_G p.tables e below _ T20 (mkF m 56 #[.val (.int p0), .val (.int (2 : Int32)), .val (.ref r_ANOMALIA_IMPRONTE), .val (.int (1 : Int32)), .val (.int (1 : Int32))] [(.int (0 : Int32))])
    refine own_ifYes X20 hx (pc' := 61) (hb hby at_56) (teq (by decide : (0 : Int32) = (0 : Int32))).1 (by decide) (by decide) ?_
    refine own_iconst X20 hx (pc' := 62) (1 : Int32) (hb hby at_61) rfl rfl ?_
    refine own_retN X20 hx hlk hret (by simp) (hb hby at_62) (by decide) (by decide) ?_
    exact ⟨rfl, N21⟩
  · rw [hk]
    refine own_iloadN X0 hx (pc' := 9) (hb hby at_8) rfl rfl ?_
    refine own_callS X0 hx (pc' := 12) hZ hown (W1 hw) (W2 hw) (W3 hw) (W4 hw) (by decide) (rmPick l Z a0 hw [] (3 : Int32) r_IRRICEVIBILE r_VALIDAZIONE_FIRMA r_ANOMALIA_IMPRONTE r_DOCUMENTI_NON_LEGGIBILI r_FIRMA_DOCUMENTI r_MARCA_DOCUMENTI r_SIGILLO_DOCUMENTI r_IRRICEVIBILITA r_IDENTIFICATORE_NON_TROVATO h0 n0 Z0 S_r_IRRICEVIBILE S_r_VALIDAZIONE_FIRMA S_r_ANOMALIA_IMPRONTE S_r_DOCUMENTI_NON_LEGGIBILI S_r_IRRICEVIBILITA S_r_FIRMA_DOCUMENTI S_r_IDENTIFICATORE_NON_TROVATO S_r_SIGILLO_DOCUMENTI S_r_MARCA_DOCUMENTI) e0 0 (by decide) (by decide) (by decide) (by decide) [(.int (3 : Int32))] [] (by rw [hml]; rfl) (lenOf pd_0 rfl) rfl rfl (Nat.le_of_eq rfl) (hb hby at_9) rfl (fun v22 T22 L22 X22 hQ22 => ?_)
    obtain ⟨hv22, Nq22, e22⟩ := hQ22
    have N23 := Fr.app N0 Nq22
    rw [show own_pick (3 : Int32) r_IRRICEVIBILE r_VALIDAZIONE_FIRMA r_ANOMALIA_IMPRONTE r_DOCUMENTI_NON_LEGGIBILI r_FIRMA_DOCUMENTI r_MARCA_DOCUMENTI r_SIGILLO_DOCUMENTI r_IRRICEVIBILITA r_IDENTIFICATORE_NON_TROVATO = r_DOCUMENTI_NON_LEGGIBILI from by simp [own_pick]] at hv22
    subst hv22
    show own_G p.tables e below _ T22 (mkF m 12 #[.val (.int p0), .val (.int (3 : Int32)), .unset, .unset, .unset] [(.ref r_DOCUMENTI_NON_LEGGIBILI)])
    refine own_astoreN X22 hx (pc' := 13) (Ls' := #[.val (.int p0), .val (.int (3 : Int32)), .val (.ref r_DOCUMENTI_NON_LEGGIBILI), .unset, .unset]) (hb hby at_12) rfl rfl rfl ?_
    refine own_aloadN X22 hx (pc' := 14) (hb hby at_13) rfl rfl rfl ?_
    refine own_getS X22 hx (pc' := 17) hZ hown (host := "") (Or.inl (W8 hw)) Via.refl e22 S_r_VALIDAZIONE_FIRMA (hb hby at_14) rfl (fun T24 X24 e24 => ?_)
    refine own_acmp X24 hx (pc' := 20) false (hb hby at_17) rfl rfl (decide_eq_false fun q => (Fld.ne F_r_DOCUMENTI_NON_LEGGIBILI_ordinal F_r_VALIDAZIONE_FIRMA_ordinal (by simp)) (Value.ref.inj q)) (by decide) (by decide) ?_
    refine own_aloadN X24 hx (pc' := 21) (hb hby at_20) rfl rfl rfl ?_
    refine own_getS X24 hx (pc' := 24) hZ hown (host := "") (Or.inl (W10 hw)) Via.refl e24 S_r_ANOMALIA_IMPRONTE (hb hby at_21) rfl (fun T25 X25 e25 => ?_)
    refine own_acmp X25 hx (pc' := 31) false (hb hby at_24) rfl rfl (decide_eq_false fun q => (Fld.ne F_r_DOCUMENTI_NON_LEGGIBILI_ordinal F_r_ANOMALIA_IMPRONTE_ordinal (by simp)) (Value.ref.inj q)) (by decide) (by decide) ?_
    refine own_iconst X25 hx (pc' := 32) (0 : Int32) (hb hby at_31) rfl rfl ?_
    refine own_istoreN X25 hx (pc' := 33) (Ls' := #[.val (.int p0), .val (.int (3 : Int32)), .val (.ref r_DOCUMENTI_NON_LEGGIBILI), .val (.int (0 : Int32)), .unset]) (hb hby at_32) rfl rfl ?_
    refine own_aloadN X25 hx (pc' := 34) (hb hby at_33) rfl rfl rfl ?_
    refine own_callV X25 hx (pc' := 37) hZ hown (W12 hw) (W14 hw) (W15 hw) (W16 hw) (W6 hw) (by decide) (rm_inAnswerToInoltro l Z a0 hw [] r_DOCUMENTI_NON_LEGGIBILI r_CONFERMA r_INOLTRO h0 n0 Z0 F_r_DOCUMENTI_NON_LEGGIBILI_carrier S_r_INOLTRO) e25 E_r_DOCUMENTI_NON_LEGGIBILI 0 (by decide) (by decide) (by decide) (by decide) [] [] (by rw [hml]; rfl) (lenOf pd_1 rfl) rfl rfl (Nat.le_of_eq rfl) (hb hby at_34) rfl (fun v26 T26 L26 X26 hQ26 => ?_)
    obtain ⟨hv26, Nq26, e26⟩ := hQ26
    have N27 := Fr.app N23 Nq26
    rw [if_neg (Fld.ne F_r_CONFERMA_ordinal F_r_INOLTRO_ordinal (by simp))] at hv26
    subst hv26
    show own_G p.tables e below _ T26 (mkF m 37 #[.val (.int p0), .val (.int (3 : Int32)), .val (.ref r_DOCUMENTI_NON_LEGGIBILI), .val (.int (0 : Int32)), .unset] [(.int (0 : Int32))])
    refine own_istore X26 hx (pc' := 39) (Ls' := #[.val (.int p0), .val (.int (3 : Int32)), .val (.ref r_DOCUMENTI_NON_LEGGIBILI), .val (.int (0 : Int32)), .val (.int (0 : Int32))]) (hb hby at_37) rfl rfl ?_
    refine own_iload X26 hx (pc' := 41) (hb hby at_39) rfl rfl ?_
    refine own_iloadN X26 hx (pc' := 42) (hb hby at_41) rfl rfl ?_
    refine own_icmpYes X26 hx (pc' := 47) (hb hby at_42) (teq (by decide : (0 : Int32) = (0 : Int32))).1 (by decide) (by decide) ?_
    refine own_iload X26 hx (pc' := 49) (hb hby at_47) rfl rfl ?_
    refine own_ifYes X26 hx (pc' := 61) (hb hby at_49) (teq (by decide : (0 : Int32) = (0 : Int32))).1 (by decide) (by decide) ?_
    refine own_iconst X26 hx (pc' := 62) (1 : Int32) (hb hby at_61) rfl rfl ?_
    refine own_retN X26 hx hlk hret (by simp) (hb hby at_62) (by decide) (by decide) ?_
    exact ⟨rfl, N27⟩
  · rw [hk]
    refine own_iloadN X0 hx (pc' := 9) (hb hby at_8) rfl rfl ?_
    refine own_callS X0 hx (pc' := 12) hZ hown (W1 hw) (W2 hw) (W3 hw) (W4 hw) (by decide) (rmPick l Z a0 hw [] (4 : Int32) r_IRRICEVIBILE r_VALIDAZIONE_FIRMA r_ANOMALIA_IMPRONTE r_DOCUMENTI_NON_LEGGIBILI r_FIRMA_DOCUMENTI r_MARCA_DOCUMENTI r_SIGILLO_DOCUMENTI r_IRRICEVIBILITA r_IDENTIFICATORE_NON_TROVATO h0 n0 Z0 S_r_IRRICEVIBILE S_r_VALIDAZIONE_FIRMA S_r_ANOMALIA_IMPRONTE S_r_DOCUMENTI_NON_LEGGIBILI S_r_IRRICEVIBILITA S_r_FIRMA_DOCUMENTI S_r_IDENTIFICATORE_NON_TROVATO S_r_SIGILLO_DOCUMENTI S_r_MARCA_DOCUMENTI) e0 0 (by decide) (by decide) (by decide) (by decide) [(.int (4 : Int32))] [] (by rw [hml]; rfl) (lenOf pd_0 rfl) rfl rfl (Nat.le_of_eq rfl) (hb hby at_9) rfl (fun v28 T28 L28 X28 hQ28 => ?_)
    obtain ⟨hv28, Nq28, e28⟩ := hQ28
    have N29 := Fr.app N0 Nq28
    rw [show own_pick (4 : Int32) r_IRRICEVIBILE r_VALIDAZIONE_FIRMA r_ANOMALIA_IMPRONTE r_DOCUMENTI_NON_LEGGIBILI r_FIRMA_DOCUMENTI r_MARCA_DOCUMENTI r_SIGILLO_DOCUMENTI r_IRRICEVIBILITA r_IDENTIFICATORE_NON_TROVATO = r_FIRMA_DOCUMENTI from by simp [own_pick]] at hv28
    subst hv28
    show own_G p.tables e below _ T28 (mkF m 12 #[.val (.int p0), .val (.int (4 : Int32)), .unset, .unset, .unset] [(.ref r_FIRMA_DOCUMENTI)])
    refine own_astoreN X28 hx (pc' := 13) (Ls' := #[.val (.int p0), .val (.int (4 : Int32)), .val (.ref r_FIRMA_DOCUMENTI), .unset, .unset]) (hb hby at_12) rfl rfl rfl ?_
    refine own_aloadN X28 hx (pc' := 14) (hb hby at_13) rfl rfl rfl ?_
    refine own_getS X28 hx (pc' := 17) hZ hown (host := "") (Or.inl (W8 hw)) Via.refl e28 S_r_VALIDAZIONE_FIRMA (hb hby at_14) rfl (fun T30 X30 e30 => ?_)
    refine own_acmp X30 hx (pc' := 20) false (hb hby at_17) rfl rfl (decide_eq_false fun q => (Fld.ne F_r_FIRMA_DOCUMENTI_ordinal F_r_VALIDAZIONE_FIRMA_ordinal (by simp)) (Value.ref.inj q)) (by decide) (by decide) ?_
    refine own_aloadN X30 hx (pc' := 21) (hb hby at_20) rfl rfl rfl ?_
    refine own_getS X30 hx (pc' := 24) hZ hown (host := "") (Or.inl (W10 hw)) Via.refl e30 S_r_ANOMALIA_IMPRONTE (hb hby at_21) rfl (fun T31 X31 e31 => ?_)
    refine own_acmp X31 hx (pc' := 31) false (hb hby at_24) rfl rfl (decide_eq_false fun q => (Fld.ne F_r_FIRMA_DOCUMENTI_ordinal F_r_ANOMALIA_IMPRONTE_ordinal (by simp)) (Value.ref.inj q)) (by decide) (by decide) ?_
    refine own_iconst X31 hx (pc' := 32) (0 : Int32) (hb hby at_31) rfl rfl ?_
    refine own_istoreN X31 hx (pc' := 33) (Ls' := #[.val (.int p0), .val (.int (4 : Int32)), .val (.ref r_FIRMA_DOCUMENTI), .val (.int (0 : Int32)), .unset]) (hb hby at_32) rfl rfl ?_
    refine own_aloadN X31 hx (pc' := 34) (hb hby at_33) rfl rfl rfl ?_
    refine own_callV X31 hx (pc' := 37) hZ hown (W12 hw) (W14 hw) (W15 hw) (W16 hw) (W6 hw) (by decide) (rm_inAnswerToInoltro l Z a0 hw [] r_FIRMA_DOCUMENTI r_CONFERMA r_INOLTRO h0 n0 Z0 F_r_FIRMA_DOCUMENTI_carrier S_r_INOLTRO) e31 E_r_FIRMA_DOCUMENTI 0 (by decide) (by decide) (by decide) (by decide) [] [] (by rw [hml]; rfl) (lenOf pd_1 rfl) rfl rfl (Nat.le_of_eq rfl) (hb hby at_34) rfl (fun v32 T32 L32 X32 hQ32 => ?_)
    obtain ⟨hv32, Nq32, e32⟩ := hQ32
    have N33 := Fr.app N29 Nq32
    rw [if_neg (Fld.ne F_r_CONFERMA_ordinal F_r_INOLTRO_ordinal (by simp))] at hv32
    subst hv32
    show own_G p.tables e below _ T32 (mkF m 37 #[.val (.int p0), .val (.int (4 : Int32)), .val (.ref r_FIRMA_DOCUMENTI), .val (.int (0 : Int32)), .unset] [(.int (0 : Int32))])
    refine own_istore X32 hx (pc' := 39) (Ls' := #[.val (.int p0), .val (.int (4 : Int32)), .val (.ref r_FIRMA_DOCUMENTI), .val (.int (0 : Int32)), .val (.int (0 : Int32))]) (hb hby at_37) rfl rfl ?_
    refine own_iload X32 hx (pc' := 41) (hb hby at_39) rfl rfl ?_
    refine own_iloadN X32 hx (pc' := 42) (hb hby at_41) rfl rfl ?_
    refine own_icmpYes X32 hx (pc' := 47) (hb hby at_42) (teq (by decide : (0 : Int32) = (0 : Int32))).1 (by decide) (by decide) ?_
    refine own_iload X32 hx (pc' := 49) (hb hby at_47) rfl rfl ?_
    refine own_ifYes X32 hx (pc' := 61) (hb hby at_49) (teq (by decide : (0 : Int32) = (0 : Int32))).1 (by decide) (by decide) ?_
    refine own_iconst X32 hx (pc' := 62) (1 : Int32) (hb hby at_61) rfl rfl ?_
    refine own_retN X32 hx hlk hret (by simp) (hb hby at_62) (by decide) (by decide) ?_
    exact ⟨rfl, N33⟩
  · rw [hk]
    refine own_iloadN X0 hx (pc' := 9) (hb hby at_8) rfl rfl ?_
    refine own_callS X0 hx (pc' := 12) hZ hown (W1 hw) (W2 hw) (W3 hw) (W4 hw) (by decide) (rmPick l Z a0 hw [] (5 : Int32) r_IRRICEVIBILE r_VALIDAZIONE_FIRMA r_ANOMALIA_IMPRONTE r_DOCUMENTI_NON_LEGGIBILI r_FIRMA_DOCUMENTI r_MARCA_DOCUMENTI r_SIGILLO_DOCUMENTI r_IRRICEVIBILITA r_IDENTIFICATORE_NON_TROVATO h0 n0 Z0 S_r_IRRICEVIBILE S_r_VALIDAZIONE_FIRMA S_r_ANOMALIA_IMPRONTE S_r_DOCUMENTI_NON_LEGGIBILI S_r_IRRICEVIBILITA S_r_FIRMA_DOCUMENTI S_r_IDENTIFICATORE_NON_TROVATO S_r_SIGILLO_DOCUMENTI S_r_MARCA_DOCUMENTI) e0 0 (by decide) (by decide) (by decide) (by decide) [(.int (5 : Int32))] [] (by rw [hml]; rfl) (lenOf pd_0 rfl) rfl rfl (Nat.le_of_eq rfl) (hb hby at_9) rfl (fun v34 T34 L34 X34 hQ34 => ?_)
    obtain ⟨hv34, Nq34, e34⟩ := hQ34
    have N35 := Fr.app N0 Nq34
    rw [show own_pick (5 : Int32) r_IRRICEVIBILE r_VALIDAZIONE_FIRMA r_ANOMALIA_IMPRONTE r_DOCUMENTI_NON_LEGGIBILI r_FIRMA_DOCUMENTI r_MARCA_DOCUMENTI r_SIGILLO_DOCUMENTI r_IRRICEVIBILITA r_IDENTIFICATORE_NON_TROVATO = r_MARCA_DOCUMENTI from by simp [own_pick]] at hv34
    subst hv34
    show own_G p.tables e below _ T34 (mkF m 12 #[.val (.int p0), .val (.int (5 : Int32)), .unset, .unset, .unset] [(.ref r_MARCA_DOCUMENTI)])
    refine own_astoreN X34 hx (pc' := 13) (Ls' := #[.val (.int p0), .val (.int (5 : Int32)), .val (.ref r_MARCA_DOCUMENTI), .unset, .unset]) (hb hby at_12) rfl rfl rfl ?_
    refine own_aloadN X34 hx (pc' := 14) (hb hby at_13) rfl rfl rfl ?_
    refine own_getS X34 hx (pc' := 17) hZ hown (host := "") (Or.inl (W8 hw)) Via.refl e34 S_r_VALIDAZIONE_FIRMA (hb hby at_14) rfl (fun T36 X36 e36 => ?_)
    refine own_acmp X36 hx (pc' := 20) false (hb hby at_17) rfl rfl (decide_eq_false fun q => (Fld.ne F_r_MARCA_DOCUMENTI_ordinal F_r_VALIDAZIONE_FIRMA_ordinal (by simp)) (Value.ref.inj q)) (by decide) (by decide) ?_
    refine own_aloadN X36 hx (pc' := 21) (hb hby at_20) rfl rfl rfl ?_
    refine own_getS X36 hx (pc' := 24) hZ hown (host := "") (Or.inl (W10 hw)) Via.refl e36 S_r_ANOMALIA_IMPRONTE (hb hby at_21) rfl (fun T37 X37 e37 => ?_)
    refine own_acmp X37 hx (pc' := 31) false (hb hby at_24) rfl rfl (decide_eq_false fun q => (Fld.ne F_r_MARCA_DOCUMENTI_ordinal F_r_ANOMALIA_IMPRONTE_ordinal (by simp)) (Value.ref.inj q)) (by decide) (by decide) ?_
    refine own_iconst X37 hx (pc' := 32) (0 : Int32) (hb hby at_31) rfl rfl ?_
    refine own_istoreN X37 hx (pc' := 33) (Ls' := #[.val (.int p0), .val (.int (5 : Int32)), .val (.ref r_MARCA_DOCUMENTI), .val (.int (0 : Int32)), .unset]) (hb hby at_32) rfl rfl ?_
    refine own_aloadN X37 hx (pc' := 34) (hb hby at_33) rfl rfl rfl ?_
    refine own_callV X37 hx (pc' := 37) hZ hown (W12 hw) (W14 hw) (W15 hw) (W16 hw) (W6 hw) (by decide) (rm_inAnswerToInoltro l Z a0 hw [] r_MARCA_DOCUMENTI r_CONFERMA r_INOLTRO h0 n0 Z0 F_r_MARCA_DOCUMENTI_carrier S_r_INOLTRO) e37 E_r_MARCA_DOCUMENTI 0 (by decide) (by decide) (by decide) (by decide) [] [] (by rw [hml]; rfl) (lenOf pd_1 rfl) rfl rfl (Nat.le_of_eq rfl) (hb hby at_34) rfl (fun v38 T38 L38 X38 hQ38 => ?_)
    obtain ⟨hv38, Nq38, e38⟩ := hQ38
    have N39 := Fr.app N35 Nq38
    rw [if_neg (Fld.ne F_r_CONFERMA_ordinal F_r_INOLTRO_ordinal (by simp))] at hv38
    subst hv38
    show own_G p.tables e below _ T38 (mkF m 37 #[.val (.int p0), .val (.int (5 : Int32)), .val (.ref r_MARCA_DOCUMENTI), .val (.int (0 : Int32)), .unset] [(.int (0 : Int32))])
    refine own_istore X38 hx (pc' := 39) (Ls' := #[.val (.int p0), .val (.int (5 : Int32)), .val (.ref r_MARCA_DOCUMENTI), .val (.int (0 : Int32)), .val (.int (0 : Int32))]) (hb hby at_37) rfl rfl ?_
    refine own_iload X38 hx (pc' := 41) (hb hby at_39) rfl rfl ?_
    refine own_iloadN X38 hx (pc' := 42) (hb hby at_41) rfl rfl ?_
    refine own_icmpYes X38 hx (pc' := 47) (hb hby at_42) (teq (by decide : (0 : Int32) = (0 : Int32))).1 (by decide) (by decide) ?_
    refine own_iload X38 hx (pc' := 49) (hb hby at_47) rfl rfl ?_
    refine own_ifYes X38 hx (pc' := 61) (hb hby at_49) (teq (by decide : (0 : Int32) = (0 : Int32))).1 (by decide) (by decide) ?_
    refine own_iconst X38 hx (pc' := 62) (1 : Int32) (hb hby at_61) rfl rfl ?_
    refine own_retN X38 hx hlk hret (by simp) (hb hby at_62) (by decide) (by decide) ?_
    exact ⟨rfl, N39⟩
  · rw [hk]
    refine own_iloadN X0 hx (pc' := 9) (hb hby at_8) rfl rfl ?_
    refine own_callS X0 hx (pc' := 12) hZ hown (W1 hw) (W2 hw) (W3 hw) (W4 hw) (by decide) (rmPick l Z a0 hw [] (6 : Int32) r_IRRICEVIBILE r_VALIDAZIONE_FIRMA r_ANOMALIA_IMPRONTE r_DOCUMENTI_NON_LEGGIBILI r_FIRMA_DOCUMENTI r_MARCA_DOCUMENTI r_SIGILLO_DOCUMENTI r_IRRICEVIBILITA r_IDENTIFICATORE_NON_TROVATO h0 n0 Z0 S_r_IRRICEVIBILE S_r_VALIDAZIONE_FIRMA S_r_ANOMALIA_IMPRONTE S_r_DOCUMENTI_NON_LEGGIBILI S_r_IRRICEVIBILITA S_r_FIRMA_DOCUMENTI S_r_IDENTIFICATORE_NON_TROVATO S_r_SIGILLO_DOCUMENTI S_r_MARCA_DOCUMENTI) e0 0 (by decide) (by decide) (by decide) (by decide) [(.int (6 : Int32))] [] (by rw [hml]; rfl) (lenOf pd_0 rfl) rfl rfl (Nat.le_of_eq rfl) (hb hby at_9) rfl (fun v40 T40 L40 X40 hQ40 => ?_)
    obtain ⟨hv40, Nq40, e40⟩ := hQ40
    have N41 := Fr.app N0 Nq40
    rw [show own_pick (6 : Int32) r_IRRICEVIBILE r_VALIDAZIONE_FIRMA r_ANOMALIA_IMPRONTE r_DOCUMENTI_NON_LEGGIBILI r_FIRMA_DOCUMENTI r_MARCA_DOCUMENTI r_SIGILLO_DOCUMENTI r_IRRICEVIBILITA r_IDENTIFICATORE_NON_TROVATO = r_SIGILLO_DOCUMENTI from by simp [own_pick]] at hv40
    subst hv40
    show own_G p.tables e below _ T40 (mkF m 12 #[.val (.int p0), .val (.int (6 : Int32)), .unset, .unset, .unset] [(.ref r_SIGILLO_DOCUMENTI)])
    refine own_astoreN X40 hx (pc' := 13) (Ls' := #[.val (.int p0), .val (.int (6 : Int32)), .val (.ref r_SIGILLO_DOCUMENTI), .unset, .unset]) (hb hby at_12) rfl rfl rfl ?_
    refine own_aloadN X40 hx (pc' := 14) (hb hby at_13) rfl rfl rfl ?_
    refine own_getS X40 hx (pc' := 17) hZ hown (host := "") (Or.inl (W8 hw)) Via.refl e40 S_r_VALIDAZIONE_FIRMA (hb hby at_14) rfl (fun T42 X42 e42 => ?_)
    refine own_acmp X42 hx (pc' := 20) false (hb hby at_17) rfl rfl (decide_eq_false fun q => (Fld.ne F_r_SIGILLO_DOCUMENTI_ordinal F_r_VALIDAZIONE_FIRMA_ordinal (by simp)) (Value.ref.inj q)) (by decide) (by decide) ?_
    refine own_aloadN X42 hx (pc' := 21) (hb hby at_20) rfl rfl rfl ?_
    refine own_getS X42 hx (pc' := 24) hZ hown (host := "") (Or.inl (W10 hw)) Via.refl e42 S_r_ANOMALIA_IMPRONTE (hb hby at_21) rfl (fun T43 X43 e43 => ?_)
    refine own_acmp X43 hx (pc' := 31) false (hb hby at_24) rfl rfl (decide_eq_false fun q => (Fld.ne F_r_SIGILLO_DOCUMENTI_ordinal F_r_ANOMALIA_IMPRONTE_ordinal (by simp)) (Value.ref.inj q)) (by decide) (by decide) ?_
    refine own_iconst X43 hx (pc' := 32) (0 : Int32) (hb hby at_31) rfl rfl ?_
    refine own_istoreN X43 hx (pc' := 33) (Ls' := #[.val (.int p0), .val (.int (6 : Int32)), .val (.ref r_SIGILLO_DOCUMENTI), .val (.int (0 : Int32)), .unset]) (hb hby at_32) rfl rfl ?_
    refine own_aloadN X43 hx (pc' := 34) (hb hby at_33) rfl rfl rfl ?_
    refine own_callV X43 hx (pc' := 37) hZ hown (W12 hw) (W14 hw) (W15 hw) (W16 hw) (W6 hw) (by decide) (rm_inAnswerToInoltro l Z a0 hw [] r_SIGILLO_DOCUMENTI r_CONFERMA r_INOLTRO h0 n0 Z0 F_r_SIGILLO_DOCUMENTI_carrier S_r_INOLTRO) e43 E_r_SIGILLO_DOCUMENTI 0 (by decide) (by decide) (by decide) (by decide) [] [] (by rw [hml]; rfl) (lenOf pd_1 rfl) rfl rfl (Nat.le_of_eq rfl) (hb hby at_34) rfl (fun v44 T44 L44 X44 hQ44 => ?_)
    obtain ⟨hv44, Nq44, e44⟩ := hQ44
    have N45 := Fr.app N41 Nq44
    rw [if_neg (Fld.ne F_r_CONFERMA_ordinal F_r_INOLTRO_ordinal (by simp))] at hv44
    subst hv44
    show own_G p.tables e below _ T44 (mkF m 37 #[.val (.int p0), .val (.int (6 : Int32)), .val (.ref r_SIGILLO_DOCUMENTI), .val (.int (0 : Int32)), .unset] [(.int (0 : Int32))])
    refine own_istore X44 hx (pc' := 39) (Ls' := #[.val (.int p0), .val (.int (6 : Int32)), .val (.ref r_SIGILLO_DOCUMENTI), .val (.int (0 : Int32)), .val (.int (0 : Int32))]) (hb hby at_37) rfl rfl ?_
    refine own_iload X44 hx (pc' := 41) (hb hby at_39) rfl rfl ?_
    refine own_iloadN X44 hx (pc' := 42) (hb hby at_41) rfl rfl ?_
    refine own_icmpYes X44 hx (pc' := 47) (hb hby at_42) (teq (by decide : (0 : Int32) = (0 : Int32))).1 (by decide) (by decide) ?_
    refine own_iload X44 hx (pc' := 49) (hb hby at_47) rfl rfl ?_
    refine own_ifYes X44 hx (pc' := 61) (hb hby at_49) (teq (by decide : (0 : Int32) = (0 : Int32))).1 (by decide) (by decide) ?_
    refine own_iconst X44 hx (pc' := 62) (1 : Int32) (hb hby at_61) rfl rfl ?_
    refine own_retN X44 hx hlk hret (by simp) (hb hby at_62) (by decide) (by decide) ?_
    exact ⟨rfl, N45⟩
  · rw [hk]
    refine own_iloadN X0 hx (pc' := 9) (hb hby at_8) rfl rfl ?_
    refine own_callS X0 hx (pc' := 12) hZ hown (W1 hw) (W2 hw) (W3 hw) (W4 hw) (by decide) (rmPick l Z a0 hw [] (7 : Int32) r_IRRICEVIBILE r_VALIDAZIONE_FIRMA r_ANOMALIA_IMPRONTE r_DOCUMENTI_NON_LEGGIBILI r_FIRMA_DOCUMENTI r_MARCA_DOCUMENTI r_SIGILLO_DOCUMENTI r_IRRICEVIBILITA r_IDENTIFICATORE_NON_TROVATO h0 n0 Z0 S_r_IRRICEVIBILE S_r_VALIDAZIONE_FIRMA S_r_ANOMALIA_IMPRONTE S_r_DOCUMENTI_NON_LEGGIBILI S_r_IRRICEVIBILITA S_r_FIRMA_DOCUMENTI S_r_IDENTIFICATORE_NON_TROVATO S_r_SIGILLO_DOCUMENTI S_r_MARCA_DOCUMENTI) e0 0 (by decide) (by decide) (by decide) (by decide) [(.int (7 : Int32))] [] (by rw [hml]; rfl) (lenOf pd_0 rfl) rfl rfl (Nat.le_of_eq rfl) (hb hby at_9) rfl (fun v46 T46 L46 X46 hQ46 => ?_)
    obtain ⟨hv46, Nq46, e46⟩ := hQ46
    have N47 := Fr.app N0 Nq46
    rw [show own_pick (7 : Int32) r_IRRICEVIBILE r_VALIDAZIONE_FIRMA r_ANOMALIA_IMPRONTE r_DOCUMENTI_NON_LEGGIBILI r_FIRMA_DOCUMENTI r_MARCA_DOCUMENTI r_SIGILLO_DOCUMENTI r_IRRICEVIBILITA r_IDENTIFICATORE_NON_TROVATO = r_IRRICEVIBILITA from by simp [own_pick]] at hv46
    subst hv46
    show own_G p.tables e below _ T46 (mkF m 12 #[.val (.int p0), .val (.int (7 : Int32)), .unset, .unset, .unset] [(.ref r_IRRICEVIBILITA)])
    refine own_astoreN X46 hx (pc' := 13) (Ls' := #[.val (.int p0), .val (.int (7 : Int32)), .val (.ref r_IRRICEVIBILITA), .unset, .unset]) (hb hby at_12) rfl rfl rfl ?_
    refine own_aloadN X46 hx (pc' := 14) (hb hby at_13) rfl rfl rfl ?_
    refine own_getS X46 hx (pc' := 17) hZ hown (host := "") (Or.inl (W8 hw)) Via.refl e46 S_r_VALIDAZIONE_FIRMA (hb hby at_14) rfl (fun T48 X48 e48 => ?_)
    refine own_acmp X48 hx (pc' := 20) false (hb hby at_17) rfl rfl (decide_eq_false fun q => (Fld.ne F_r_IRRICEVIBILITA_ordinal F_r_VALIDAZIONE_FIRMA_ordinal (by simp)) (Value.ref.inj q)) (by decide) (by decide) ?_
    refine own_aloadN X48 hx (pc' := 21) (hb hby at_20) rfl rfl rfl ?_
    refine own_getS X48 hx (pc' := 24) hZ hown (host := "") (Or.inl (W10 hw)) Via.refl e48 S_r_ANOMALIA_IMPRONTE (hb hby at_21) rfl (fun T49 X49 e49 => ?_)
    refine own_acmp X49 hx (pc' := 31) false (hb hby at_24) rfl rfl (decide_eq_false fun q => (Fld.ne F_r_IRRICEVIBILITA_ordinal F_r_ANOMALIA_IMPRONTE_ordinal (by simp)) (Value.ref.inj q)) (by decide) (by decide) ?_
    refine own_iconst X49 hx (pc' := 32) (0 : Int32) (hb hby at_31) rfl rfl ?_
    refine own_istoreN X49 hx (pc' := 33) (Ls' := #[.val (.int p0), .val (.int (7 : Int32)), .val (.ref r_IRRICEVIBILITA), .val (.int (0 : Int32)), .unset]) (hb hby at_32) rfl rfl ?_
    refine own_aloadN X49 hx (pc' := 34) (hb hby at_33) rfl rfl rfl ?_
    refine own_callV X49 hx (pc' := 37) hZ hown (W12 hw) (W14 hw) (W15 hw) (W16 hw) (W6 hw) (by decide) (rm_inAnswerToInoltro l Z a0 hw [] r_IRRICEVIBILITA r_ANNULMENT r_INOLTRO h0 n0 Z0 F_r_IRRICEVIBILITA_carrier S_r_INOLTRO) e49 E_r_IRRICEVIBILITA 0 (by decide) (by decide) (by decide) (by decide) [] [] (by rw [hml]; rfl) (lenOf pd_1 rfl) rfl rfl (Nat.le_of_eq rfl) (hb hby at_34) rfl (fun v50 T50 L50 X50 hQ50 => ?_)
    obtain ⟨hv50, Nq50, e50⟩ := hQ50
    have N51 := Fr.app N47 Nq50
    rw [if_neg (Fld.ne F_r_ANNULMENT_ordinal F_r_INOLTRO_ordinal (by simp))] at hv50
    subst hv50
    show own_G p.tables e below _ T50 (mkF m 37 #[.val (.int p0), .val (.int (7 : Int32)), .val (.ref r_IRRICEVIBILITA), .val (.int (0 : Int32)), .unset] [(.int (0 : Int32))])
    refine own_istore X50 hx (pc' := 39) (Ls' := #[.val (.int p0), .val (.int (7 : Int32)), .val (.ref r_IRRICEVIBILITA), .val (.int (0 : Int32)), .val (.int (0 : Int32))]) (hb hby at_37) rfl rfl ?_
    refine own_iload X50 hx (pc' := 41) (hb hby at_39) rfl rfl ?_
    refine own_iloadN X50 hx (pc' := 42) (hb hby at_41) rfl rfl ?_
    refine own_icmpYes X50 hx (pc' := 47) (hb hby at_42) (teq (by decide : (0 : Int32) = (0 : Int32))).1 (by decide) (by decide) ?_
    refine own_iload X50 hx (pc' := 49) (hb hby at_47) rfl rfl ?_
    refine own_ifYes X50 hx (pc' := 61) (hb hby at_49) (teq (by decide : (0 : Int32) = (0 : Int32))).1 (by decide) (by decide) ?_
    refine own_iconst X50 hx (pc' := 62) (1 : Int32) (hb hby at_61) rfl rfl ?_
    refine own_retN X50 hx hlk hret (by simp) (hb hby at_62) (by decide) (by decide) ?_
    exact ⟨rfl, N51⟩
  · rw [hk]
    refine own_iloadN X0 hx (pc' := 9) (hb hby at_8) rfl rfl ?_
    refine own_callS X0 hx (pc' := 12) hZ hown (W1 hw) (W2 hw) (W3 hw) (W4 hw) (by decide) (rmPick l Z a0 hw [] (8 : Int32) r_IRRICEVIBILE r_VALIDAZIONE_FIRMA r_ANOMALIA_IMPRONTE r_DOCUMENTI_NON_LEGGIBILI r_FIRMA_DOCUMENTI r_MARCA_DOCUMENTI r_SIGILLO_DOCUMENTI r_IRRICEVIBILITA r_IDENTIFICATORE_NON_TROVATO h0 n0 Z0 S_r_IRRICEVIBILE S_r_VALIDAZIONE_FIRMA S_r_ANOMALIA_IMPRONTE S_r_DOCUMENTI_NON_LEGGIBILI S_r_IRRICEVIBILITA S_r_FIRMA_DOCUMENTI S_r_IDENTIFICATORE_NON_TROVATO S_r_SIGILLO_DOCUMENTI S_r_MARCA_DOCUMENTI) e0 0 (by decide) (by decide) (by decide) (by decide) [(.int (8 : Int32))] [] (by rw [hml]; rfl) (lenOf pd_0 rfl) rfl rfl (Nat.le_of_eq rfl) (hb hby at_9) rfl (fun v52 T52 L52 X52 hQ52 => ?_)
    obtain ⟨hv52, Nq52, e52⟩ := hQ52
    have N53 := Fr.app N0 Nq52
    rw [show own_pick (8 : Int32) r_IRRICEVIBILE r_VALIDAZIONE_FIRMA r_ANOMALIA_IMPRONTE r_DOCUMENTI_NON_LEGGIBILI r_FIRMA_DOCUMENTI r_MARCA_DOCUMENTI r_SIGILLO_DOCUMENTI r_IRRICEVIBILITA r_IDENTIFICATORE_NON_TROVATO = r_IDENTIFICATORE_NON_TROVATO from by simp [own_pick]] at hv52
    subst hv52
    show own_G p.tables e below _ T52 (mkF m 12 #[.val (.int p0), .val (.int (8 : Int32)), .unset, .unset, .unset] [(.ref r_IDENTIFICATORE_NON_TROVATO)])
    refine own_astoreN X52 hx (pc' := 13) (Ls' := #[.val (.int p0), .val (.int (8 : Int32)), .val (.ref r_IDENTIFICATORE_NON_TROVATO), .unset, .unset]) (hb hby at_12) rfl rfl rfl ?_
    refine own_aloadN X52 hx (pc' := 14) (hb hby at_13) rfl rfl rfl ?_
    refine own_getS X52 hx (pc' := 17) hZ hown (host := "") (Or.inl (W8 hw)) Via.refl e52 S_r_VALIDAZIONE_FIRMA (hb hby at_14) rfl (fun T54 X54 e54 => ?_)
    refine own_acmp X54 hx (pc' := 20) false (hb hby at_17) rfl rfl (decide_eq_false fun q => (Fld.ne F_r_IDENTIFICATORE_NON_TROVATO_ordinal F_r_VALIDAZIONE_FIRMA_ordinal (by simp)) (Value.ref.inj q)) (by decide) (by decide) ?_
    refine own_aloadN X54 hx (pc' := 21) (hb hby at_20) rfl rfl rfl ?_
    refine own_getS X54 hx (pc' := 24) hZ hown (host := "") (Or.inl (W10 hw)) Via.refl e54 S_r_ANOMALIA_IMPRONTE (hb hby at_21) rfl (fun T55 X55 e55 => ?_)
    refine own_acmp X55 hx (pc' := 31) false (hb hby at_24) rfl rfl (decide_eq_false fun q => (Fld.ne F_r_IDENTIFICATORE_NON_TROVATO_ordinal F_r_ANOMALIA_IMPRONTE_ordinal (by simp)) (Value.ref.inj q)) (by decide) (by decide) ?_
    refine own_iconst X55 hx (pc' := 32) (0 : Int32) (hb hby at_31) rfl rfl ?_
    refine own_istoreN X55 hx (pc' := 33) (Ls' := #[.val (.int p0), .val (.int (8 : Int32)), .val (.ref r_IDENTIFICATORE_NON_TROVATO), .val (.int (0 : Int32)), .unset]) (hb hby at_32) rfl rfl ?_
    refine own_aloadN X55 hx (pc' := 34) (hb hby at_33) rfl rfl rfl ?_
    refine own_callV X55 hx (pc' := 37) hZ hown (W12 hw) (W14 hw) (W15 hw) (W16 hw) (W6 hw) (by decide) (rm_inAnswerToInoltro l Z a0 hw [] r_IDENTIFICATORE_NON_TROVATO r_ANNULMENT r_INOLTRO h0 n0 Z0 F_r_IDENTIFICATORE_NON_TROVATO_carrier S_r_INOLTRO) e55 E_r_IDENTIFICATORE_NON_TROVATO 0 (by decide) (by decide) (by decide) (by decide) [] [] (by rw [hml]; rfl) (lenOf pd_1 rfl) rfl rfl (Nat.le_of_eq rfl) (hb hby at_34) rfl (fun v56 T56 L56 X56 hQ56 => ?_)
    obtain ⟨hv56, Nq56, e56⟩ := hQ56
    have N57 := Fr.app N53 Nq56
    rw [if_neg (Fld.ne F_r_ANNULMENT_ordinal F_r_INOLTRO_ordinal (by simp))] at hv56
    subst hv56
    show own_G p.tables e below _ T56 (mkF m 37 #[.val (.int p0), .val (.int (8 : Int32)), .val (.ref r_IDENTIFICATORE_NON_TROVATO), .val (.int (0 : Int32)), .unset] [(.int (0 : Int32))])
    refine own_istore X56 hx (pc' := 39) (Ls' := #[.val (.int p0), .val (.int (8 : Int32)), .val (.ref r_IDENTIFICATORE_NON_TROVATO), .val (.int (0 : Int32)), .val (.int (0 : Int32))]) (hb hby at_37) rfl rfl ?_
    refine own_iload X56 hx (pc' := 41) (hb hby at_39) rfl rfl ?_
    refine own_iloadN X56 hx (pc' := 42) (hb hby at_41) rfl rfl ?_
    refine own_icmpYes X56 hx (pc' := 47) (hb hby at_42) (teq (by decide : (0 : Int32) = (0 : Int32))).1 (by decide) (by decide) ?_
    refine own_iload X56 hx (pc' := 49) (hb hby at_47) rfl rfl ?_
    refine own_ifYes X56 hx (pc' := 61) (hb hby at_49) (teq (by decide : (0 : Int32) = (0 : Int32))).1 (by decide) (by decide) ?_
    refine own_iconst X56 hx (pc' := 62) (1 : Int32) (hb hby at_61) rfl rfl ?_
    refine own_retN X56 hx hlk hret (by simp) (hb hby at_62) (by decide) (by decide) ?_
    exact ⟨rfl, N57⟩

set_option maxRecDepth 65536 in
set_option maxHeartbeats 40000000 in
theorem comes_1 {Post : Tables → Env → Array Value → State → Outcome → State → Prop} (hpost : ∀ tb e args s v u, (limb_1_1.after args s (.returned v) u = true ∧ limb_1_2.after args s (.returned v) u = true ∧ True) → FrameEnd s (.returned v) u (Jvm.fieldLocs frame_1_writes args s ++ Jvm.arrayLocs frame_1_arrays args s ++ Jvm.staticLocs frame_1_statics s) 0 0 → Post tb e args s (.returned v) u) :
    ArmFor flags0 classFile x code maxLocals ret World_1 tables_1 room_1 Calls_1 rest_1 Pre_1 Post := by
  intro l hfl _ _ p e ha hc hk s m args below hf hA hF happ hP
  obtain ⟨hcalls, hrest, hpre⟩ := hP
  obtain ⟨-, -, -, hnamed, -, -, -, hat⟩ := (Spec.applies_iff hf).mp happ
  obtain ⟨hg, hn⟩ := and_e (Cond.before_iff.mp (show (Jvm.Cond.and given_1 narrow_1).before args s = true from hpre))
  obtain ⟨hcnt, hg0⟩ := and_e hg
  obtain ⟨w0, rfl⟩ : ∃ w0 : Value, args = #[w0] := by
    have hs : args.size = 1 := by simpa [Cond.value, given_1] using hcnt
    obtain ⟨L⟩ := args
    match L, hs with
    | [w0], _ => exact ⟨w0, rfl⟩
  have hw := fun d (hd : d ∈ tables_1) => atoms_spec (ws := Jvm.Cond.code x code maxLocals ret :: tables_1) hat d (List.mem_cons_of_mem _ hd)
  have hfit : Fit s := fun {y c} hc i hi => by
    obtain ⟨ha, rfl⟩ := Array.getElem?_eq_some_iff.mp hc
    have q := List.all_eq_true.mp ((Array.all_eq_true_iff_forall_mem.mp hF) _ (Array.getElem_mem ha)) i (List.mem_range.mpr hi)
    simpa [Array.getElem?_eq_getElem hi] using q
  obtain ⟨i0, ei0⟩ := is_v hg0
  obtain rfl : w0 = (.int i0) := Option.some.inj ei0
  obtain ⟨m0, hn0⟩ := and_e hn
  obtain ⟨r_IRRICEVIBILE, ev_r_IRRICEVIBILE⟩ := exa_v m0
  have S_r_IRRICEVIBILE : Sta s s.heap "com/example/office_to_office/officetooffice/segnatura/Anomalia" "IRRICEVIBILE" "Lcom/example/office_to_office/officetooffice/segnatura/Anomalia;" (.ref r_IRRICEVIBILE) := Sta.start ev_r_IRRICEVIBILE (Or.inr ⟨(W6 hw), (W7 hw)⟩)
  have E_r_IRRICEVIBILE : Exa s s.heap r_IRRICEVIBILE "com/example/office_to_office/officetooffice/segnatura/Anomalia" := Exa.start ev_r_IRRICEVIBILE m0
  obtain ⟨m1, hn1⟩ := and_e hn0
  obtain ⟨r_VALIDAZIONE_FIRMA, ev_r_VALIDAZIONE_FIRMA⟩ := exa_v m1
  have S_r_VALIDAZIONE_FIRMA : Sta s s.heap "com/example/office_to_office/officetooffice/segnatura/Anomalia" "VALIDAZIONE_FIRMA" "Lcom/example/office_to_office/officetooffice/segnatura/Anomalia;" (.ref r_VALIDAZIONE_FIRMA) := Sta.start ev_r_VALIDAZIONE_FIRMA (Or.inr ⟨(W6 hw), (W9 hw)⟩)
  have E_r_VALIDAZIONE_FIRMA : Exa s s.heap r_VALIDAZIONE_FIRMA "com/example/office_to_office/officetooffice/segnatura/Anomalia" := Exa.start ev_r_VALIDAZIONE_FIRMA m1
  obtain ⟨m2, hn2⟩ := and_e hn1
  have F_r_IRRICEVIBILE_ordinal : Fld s s.heap r_IRRICEVIBILE "java/lang/Enum" "ordinal" "I" (.int (0 : Int32)) := own_fldI ev_r_IRRICEVIBILE m2
  obtain ⟨m3, hn3⟩ := and_e hn2
  have F_r_VALIDAZIONE_FIRMA_ordinal : Fld s s.heap r_VALIDAZIONE_FIRMA "java/lang/Enum" "ordinal" "I" (.int (1 : Int32)) := own_fldI ev_r_VALIDAZIONE_FIRMA m3
  obtain ⟨m4, hn4⟩ := and_e hn3
  obtain ⟨r_ANOMALIA_IMPRONTE, ev_r_ANOMALIA_IMPRONTE⟩ := exa_v m4
  have S_r_ANOMALIA_IMPRONTE : Sta s s.heap "com/example/office_to_office/officetooffice/segnatura/Anomalia" "ANOMALIA_IMPRONTE" "Lcom/example/office_to_office/officetooffice/segnatura/Anomalia;" (.ref r_ANOMALIA_IMPRONTE) := Sta.start ev_r_ANOMALIA_IMPRONTE (Or.inr ⟨(W6 hw), (W11 hw)⟩)
  have E_r_ANOMALIA_IMPRONTE : Exa s s.heap r_ANOMALIA_IMPRONTE "com/example/office_to_office/officetooffice/segnatura/Anomalia" := Exa.start ev_r_ANOMALIA_IMPRONTE m4
  obtain ⟨m5, hn5⟩ := and_e hn4
  have F_r_ANOMALIA_IMPRONTE_ordinal : Fld s s.heap r_ANOMALIA_IMPRONTE "java/lang/Enum" "ordinal" "I" (.int (2 : Int32)) := own_fldI ev_r_ANOMALIA_IMPRONTE m5
  obtain ⟨m6, hn6⟩ := and_e hn5
  obtain ⟨r_CONFERMA, ev_r_CONFERMA⟩ := exa_v m6
  have S_r_CONFERMA : Sta s s.heap "com/example/office_to_office/officetooffice/segnatura/Anomalia$Carrier" "CONFERMA" "Lcom/example/office_to_office/officetooffice/segnatura/Anomalia$Carrier;" (.ref r_CONFERMA) := Sta.start ev_r_CONFERMA (Or.inr ⟨(W19 hw), (W20 hw)⟩)
  have E_r_CONFERMA : Exa s s.heap r_CONFERMA "com/example/office_to_office/officetooffice/segnatura/Anomalia$Carrier" := Exa.start ev_r_CONFERMA m6
  obtain ⟨m7, hn7⟩ := and_e hn6
  have F_r_IRRICEVIBILE_carrier : Fld s s.heap r_IRRICEVIBILE "com/example/office_to_office/officetooffice/segnatura/Anomalia" "carrier" "Lcom/example/office_to_office/officetooffice/segnatura/Anomalia$Carrier;" (.ref r_CONFERMA) := own_fldR ev_r_IRRICEVIBILE ev_r_CONFERMA m7
  obtain ⟨m8, hn8⟩ := and_e hn7
  obtain ⟨r_INOLTRO, ev_r_INOLTRO⟩ := exa_v m8
  have S_r_INOLTRO : Sta s s.heap "com/example/office_to_office/officetooffice/segnatura/Anomalia$Carrier" "INOLTRO" "Lcom/example/office_to_office/officetooffice/segnatura/Anomalia$Carrier;" (.ref r_INOLTRO) := Sta.start ev_r_INOLTRO (Or.inr ⟨(W19 hw), (W22 hw)⟩)
  have E_r_INOLTRO : Exa s s.heap r_INOLTRO "com/example/office_to_office/officetooffice/segnatura/Anomalia$Carrier" := Exa.start ev_r_INOLTRO m8
  obtain ⟨m9, hn9⟩ := and_e hn8
  have F_r_CONFERMA_ordinal : Fld s s.heap r_CONFERMA "java/lang/Enum" "ordinal" "I" (.int (1 : Int32)) := own_fldI ev_r_CONFERMA m9
  obtain ⟨m10, hn10⟩ := and_e hn9
  have F_r_INOLTRO_ordinal : Fld s s.heap r_INOLTRO "java/lang/Enum" "ordinal" "I" (.int (0 : Int32)) := own_fldI ev_r_INOLTRO m10
  obtain ⟨m11, hn11⟩ := and_e hn10
  obtain ⟨r_DOCUMENTI_NON_LEGGIBILI, ev_r_DOCUMENTI_NON_LEGGIBILI⟩ := exa_v m11
  have S_r_DOCUMENTI_NON_LEGGIBILI : Sta s s.heap "com/example/office_to_office/officetooffice/segnatura/Anomalia" "DOCUMENTI_NON_LEGGIBILI" "Lcom/example/office_to_office/officetooffice/segnatura/Anomalia;" (.ref r_DOCUMENTI_NON_LEGGIBILI) := Sta.start ev_r_DOCUMENTI_NON_LEGGIBILI (Or.inr ⟨(W6 hw), (W24 hw)⟩)
  have E_r_DOCUMENTI_NON_LEGGIBILI : Exa s s.heap r_DOCUMENTI_NON_LEGGIBILI "com/example/office_to_office/officetooffice/segnatura/Anomalia" := Exa.start ev_r_DOCUMENTI_NON_LEGGIBILI m11
  obtain ⟨m12, hn12⟩ := and_e hn11
  have F_r_DOCUMENTI_NON_LEGGIBILI_ordinal : Fld s s.heap r_DOCUMENTI_NON_LEGGIBILI "java/lang/Enum" "ordinal" "I" (.int (3 : Int32)) := own_fldI ev_r_DOCUMENTI_NON_LEGGIBILI m12
  obtain ⟨m13, hn13⟩ := and_e hn12
  have F_r_DOCUMENTI_NON_LEGGIBILI_carrier : Fld s s.heap r_DOCUMENTI_NON_LEGGIBILI "com/example/office_to_office/officetooffice/segnatura/Anomalia" "carrier" "Lcom/example/office_to_office/officetooffice/segnatura/Anomalia$Carrier;" (.ref r_CONFERMA) := own_fldR ev_r_DOCUMENTI_NON_LEGGIBILI ev_r_CONFERMA m13
  obtain ⟨m14, hn14⟩ := and_e hn13
  have F_r_ANOMALIA_IMPRONTE_carrier : Fld s s.heap r_ANOMALIA_IMPRONTE "com/example/office_to_office/officetooffice/segnatura/Anomalia" "carrier" "Lcom/example/office_to_office/officetooffice/segnatura/Anomalia$Carrier;" (.ref r_INOLTRO) := own_fldR ev_r_ANOMALIA_IMPRONTE ev_r_INOLTRO m14
  obtain ⟨m15, hn15⟩ := and_e hn14
  have F_r_VALIDAZIONE_FIRMA_carrier : Fld s s.heap r_VALIDAZIONE_FIRMA "com/example/office_to_office/officetooffice/segnatura/Anomalia" "carrier" "Lcom/example/office_to_office/officetooffice/segnatura/Anomalia$Carrier;" (.ref r_INOLTRO) := own_fldR ev_r_VALIDAZIONE_FIRMA ev_r_INOLTRO m15
  obtain ⟨m16, hn16⟩ := and_e hn15
  obtain ⟨r_IRRICEVIBILITA, ev_r_IRRICEVIBILITA⟩ := exa_v m16
  have S_r_IRRICEVIBILITA : Sta s s.heap "com/example/office_to_office/officetooffice/segnatura/Anomalia" "IRRICEVIBILITA" "Lcom/example/office_to_office/officetooffice/segnatura/Anomalia;" (.ref r_IRRICEVIBILITA) := Sta.start ev_r_IRRICEVIBILITA (Or.inr ⟨(W6 hw), (W32 hw)⟩)
  have E_r_IRRICEVIBILITA : Exa s s.heap r_IRRICEVIBILITA "com/example/office_to_office/officetooffice/segnatura/Anomalia" := Exa.start ev_r_IRRICEVIBILITA m16
  obtain ⟨m17, hn17⟩ := and_e hn16
  have F_r_IRRICEVIBILITA_ordinal : Fld s s.heap r_IRRICEVIBILITA "java/lang/Enum" "ordinal" "I" (.int (7 : Int32)) := own_fldI ev_r_IRRICEVIBILITA m17
  obtain ⟨m18, hn18⟩ := and_e hn17
  obtain ⟨r_ANNULMENT, ev_r_ANNULMENT⟩ := exa_v m18
  have S_r_ANNULMENT : Sta s s.heap "com/example/office_to_office/officetooffice/segnatura/Anomalia$Carrier" "ANNULMENT" "Lcom/example/office_to_office/officetooffice/segnatura/Anomalia$Carrier;" (.ref r_ANNULMENT) := Sta.start ev_r_ANNULMENT (Or.inr ⟨(W19 hw), (W33 hw)⟩)
  have E_r_ANNULMENT : Exa s s.heap r_ANNULMENT "com/example/office_to_office/officetooffice/segnatura/Anomalia$Carrier" := Exa.start ev_r_ANNULMENT m18
  obtain ⟨m19, hn19⟩ := and_e hn18
  have F_r_IRRICEVIBILITA_carrier : Fld s s.heap r_IRRICEVIBILITA "com/example/office_to_office/officetooffice/segnatura/Anomalia" "carrier" "Lcom/example/office_to_office/officetooffice/segnatura/Anomalia$Carrier;" (.ref r_ANNULMENT) := own_fldR ev_r_IRRICEVIBILITA ev_r_ANNULMENT m19
  obtain ⟨m20, hn20⟩ := and_e hn19
  have F_r_ANNULMENT_ordinal : Fld s s.heap r_ANNULMENT "java/lang/Enum" "ordinal" "I" (.int (2 : Int32)) := own_fldI ev_r_ANNULMENT m20
  obtain ⟨m21, hn21⟩ := and_e hn20
  obtain ⟨r_FIRMA_DOCUMENTI, ev_r_FIRMA_DOCUMENTI⟩ := exa_v m21
  have S_r_FIRMA_DOCUMENTI : Sta s s.heap "com/example/office_to_office/officetooffice/segnatura/Anomalia" "FIRMA_DOCUMENTI" "Lcom/example/office_to_office/officetooffice/segnatura/Anomalia;" (.ref r_FIRMA_DOCUMENTI) := Sta.start ev_r_FIRMA_DOCUMENTI (Or.inr ⟨(W6 hw), (W35 hw)⟩)
  have E_r_FIRMA_DOCUMENTI : Exa s s.heap r_FIRMA_DOCUMENTI "com/example/office_to_office/officetooffice/segnatura/Anomalia" := Exa.start ev_r_FIRMA_DOCUMENTI m21
  obtain ⟨m22, hn22⟩ := and_e hn21
  have F_r_FIRMA_DOCUMENTI_ordinal : Fld s s.heap r_FIRMA_DOCUMENTI "java/lang/Enum" "ordinal" "I" (.int (4 : Int32)) := own_fldI ev_r_FIRMA_DOCUMENTI m22
  obtain ⟨m23, hn23⟩ := and_e hn22
  have F_r_FIRMA_DOCUMENTI_carrier : Fld s s.heap r_FIRMA_DOCUMENTI "com/example/office_to_office/officetooffice/segnatura/Anomalia" "carrier" "Lcom/example/office_to_office/officetooffice/segnatura/Anomalia$Carrier;" (.ref r_CONFERMA) := own_fldR ev_r_FIRMA_DOCUMENTI ev_r_CONFERMA m23
  obtain ⟨m24, hn24⟩ := and_e hn23
  obtain ⟨r_IDENTIFICATORE_NON_TROVATO, ev_r_IDENTIFICATORE_NON_TROVATO⟩ := exa_v m24
  have S_r_IDENTIFICATORE_NON_TROVATO : Sta s s.heap "com/example/office_to_office/officetooffice/segnatura/Anomalia" "IDENTIFICATORE_NON_TROVATO" "Lcom/example/office_to_office/officetooffice/segnatura/Anomalia;" (.ref r_IDENTIFICATORE_NON_TROVATO) := Sta.start ev_r_IDENTIFICATORE_NON_TROVATO (Or.inr ⟨(W6 hw), (W37 hw)⟩)
  have E_r_IDENTIFICATORE_NON_TROVATO : Exa s s.heap r_IDENTIFICATORE_NON_TROVATO "com/example/office_to_office/officetooffice/segnatura/Anomalia" := Exa.start ev_r_IDENTIFICATORE_NON_TROVATO m24
  obtain ⟨m25, hn25⟩ := and_e hn24
  have F_r_IDENTIFICATORE_NON_TROVATO_ordinal : Fld s s.heap r_IDENTIFICATORE_NON_TROVATO "java/lang/Enum" "ordinal" "I" (.int (8 : Int32)) := own_fldI ev_r_IDENTIFICATORE_NON_TROVATO m25
  obtain ⟨m26, hn26⟩ := and_e hn25
  have F_r_IDENTIFICATORE_NON_TROVATO_carrier : Fld s s.heap r_IDENTIFICATORE_NON_TROVATO "com/example/office_to_office/officetooffice/segnatura/Anomalia" "carrier" "Lcom/example/office_to_office/officetooffice/segnatura/Anomalia$Carrier;" (.ref r_ANNULMENT) := own_fldR ev_r_IDENTIFICATORE_NON_TROVATO ev_r_ANNULMENT m26
  obtain ⟨m27, hn27⟩ := and_e hn26
  obtain ⟨r_SIGILLO_DOCUMENTI, ev_r_SIGILLO_DOCUMENTI⟩ := exa_v m27
  have S_r_SIGILLO_DOCUMENTI : Sta s s.heap "com/example/office_to_office/officetooffice/segnatura/Anomalia" "SIGILLO_DOCUMENTI" "Lcom/example/office_to_office/officetooffice/segnatura/Anomalia;" (.ref r_SIGILLO_DOCUMENTI) := Sta.start ev_r_SIGILLO_DOCUMENTI (Or.inr ⟨(W6 hw), (W39 hw)⟩)
  have E_r_SIGILLO_DOCUMENTI : Exa s s.heap r_SIGILLO_DOCUMENTI "com/example/office_to_office/officetooffice/segnatura/Anomalia" := Exa.start ev_r_SIGILLO_DOCUMENTI m27
  obtain ⟨m28, hn28⟩ := and_e hn27
  have F_r_SIGILLO_DOCUMENTI_ordinal : Fld s s.heap r_SIGILLO_DOCUMENTI "java/lang/Enum" "ordinal" "I" (.int (6 : Int32)) := own_fldI ev_r_SIGILLO_DOCUMENTI m28
  obtain ⟨m29, hn29⟩ := and_e hn28
  have F_r_SIGILLO_DOCUMENTI_carrier : Fld s s.heap r_SIGILLO_DOCUMENTI "com/example/office_to_office/officetooffice/segnatura/Anomalia" "carrier" "Lcom/example/office_to_office/officetooffice/segnatura/Anomalia$Carrier;" (.ref r_CONFERMA) := own_fldR ev_r_SIGILLO_DOCUMENTI ev_r_CONFERMA m29
  obtain ⟨m30, hn30⟩ := and_e hn29
  obtain ⟨r_MARCA_DOCUMENTI, ev_r_MARCA_DOCUMENTI⟩ := exa_v m30
  have S_r_MARCA_DOCUMENTI : Sta s s.heap "com/example/office_to_office/officetooffice/segnatura/Anomalia" "MARCA_DOCUMENTI" "Lcom/example/office_to_office/officetooffice/segnatura/Anomalia;" (.ref r_MARCA_DOCUMENTI) := Sta.start ev_r_MARCA_DOCUMENTI (Or.inr ⟨(W6 hw), (W41 hw)⟩)
  have E_r_MARCA_DOCUMENTI : Exa s s.heap r_MARCA_DOCUMENTI "com/example/office_to_office/officetooffice/segnatura/Anomalia" := Exa.start ev_r_MARCA_DOCUMENTI m30
  obtain ⟨m31, hn31⟩ := and_e hn30
  have F_r_MARCA_DOCUMENTI_ordinal : Fld s s.heap r_MARCA_DOCUMENTI "java/lang/Enum" "ordinal" "I" (.int (5 : Int32)) := own_fldI ev_r_MARCA_DOCUMENTI m31
  have F_r_MARCA_DOCUMENTI_carrier : Fld s s.heap r_MARCA_DOCUMENTI "com/example/office_to_office/officetooffice/segnatura/Anomalia" "carrier" "Lcom/example/office_to_office/officetooffice/segnatura/Anomalia$Carrier;" (.ref r_CONFERMA) := own_fldR ev_r_MARCA_DOCUMENTI ev_r_CONFERMA hn31
  obtain ⟨n, o, h1, h2, h3, _, L, rfl, ⟨rfl, N⟩, hq⟩ := rm0 l s _ hw tables_1 i0 r_IRRICEVIBILE r_VALIDAZIONE_FIRMA r_ANOMALIA_IMPRONTE r_CONFERMA r_INOLTRO r_DOCUMENTI_NON_LEGGIBILI r_IRRICEVIBILITA r_ANNULMENT r_FIRMA_DOCUMENTI r_IDENTIFICATORE_NON_TROVATO r_SIGILLO_DOCUMENTI r_MARCA_DOCUMENTI s.heap s.heap.size (Nat.le_refl _) S_r_IRRICEVIBILE E_r_IRRICEVIBILE S_r_VALIDAZIONE_FIRMA E_r_VALIDAZIONE_FIRMA F_r_IRRICEVIBILE_ordinal F_r_VALIDAZIONE_FIRMA_ordinal S_r_ANOMALIA_IMPRONTE E_r_ANOMALIA_IMPRONTE F_r_ANOMALIA_IMPRONTE_ordinal S_r_CONFERMA E_r_CONFERMA F_r_IRRICEVIBILE_carrier S_r_INOLTRO E_r_INOLTRO F_r_CONFERMA_ordinal F_r_INOLTRO_ordinal S_r_DOCUMENTI_NON_LEGGIBILI E_r_DOCUMENTI_NON_LEGGIBILI F_r_DOCUMENTI_NON_LEGGIBILI_ordinal F_r_DOCUMENTI_NON_LEGGIBILI_carrier F_r_ANOMALIA_IMPRONTE_carrier F_r_VALIDAZIONE_FIRMA_carrier S_r_IRRICEVIBILITA E_r_IRRICEVIBILITA F_r_IRRICEVIBILITA_ordinal S_r_ANNULMENT E_r_ANNULMENT F_r_IRRICEVIBILITA_carrier F_r_ANNULMENT_ordinal S_r_FIRMA_DOCUMENTI E_r_FIRMA_DOCUMENTI F_r_FIRMA_DOCUMENTI_ordinal F_r_FIRMA_DOCUMENTI_carrier S_r_IDENTIFICATORE_NON_TROVATO E_r_IDENTIFICATORE_NON_TROVATO F_r_IDENTIFICATORE_NON_TROVATO_ordinal F_r_IDENTIFICATORE_NON_TROVATO_carrier S_r_SIGILLO_DOCUMENTI E_r_SIGILLO_DOCUMENTI F_r_SIGILLO_DOCUMENTI_ordinal F_r_SIGILLO_DOCUMENTI_carrier S_r_MARCA_DOCUMENTI E_r_MARCA_DOCUMENTI F_r_MARCA_DOCUMENTI_ordinal F_r_MARCA_DOCUMENTI_carrier p e ha hc hk s m _ below hf ((Spec.applies_iff_loose hf).mp happ).1 ⟨rfl, State.Warmed39.refl s, rfl⟩ trivial
  refine ⟨n, _, h1, h2, h3, hpost _ _ _ _ _ _ ⟨Cond.after_iff.mpr rfl, Cond.after_iff.mpr (eq_i res_at (Term.int_eval (1)) rfl), trivial⟩ ⟨hq.1, hq.2.1, (hq.2.2.sift fun y hy => Or.inr (N y hy)).mono (by decide) (by decide)⟩⟩
theorem main_1_1 : Claimed_1_1 := comes_1 fun _ _ _ _ _ _ h hF => ⟨h.1, hF⟩
theorem main_1_2 : Claimed_1_2 := comes_1 fun _ _ _ _ _ _ h hF => ⟨h.2.1, hF⟩
end Jvm.Pilot.@@N@@
namespace Jvm.Pilot.@@N@@
open Jvm Jvm.ClassFile Sem Op Lib Jvm.Free Jvm.Stand Jvm.Pilot.@@N@@.Jvm.D
/-! MADE BY PROGRAM (witnessworld.py) out of the Statement's table words and the real class files: 13 classes; the members and pool entries that the words name. The judged class is class 1, her method 2. -/
namespace start1
open Jvm.ClassFile
def u (s : String) : CpInfo := .utf8 (stringToUtf16 s)
/-- a pool by its gaps: so many unusable entries, then the entry; so many at the end -/
def gap : Nat → List CpInfo → List CpInfo
  | 0, r => r
  | n + 1, r => .unusable :: gap n r
def poolList (es : List (Nat × CpInfo)) (last : Nat) : List CpInfo := es.foldr (fun e r => gap e.1 (e.2 :: r)) (gap last [])
def pool (es : List (Nat × CpInfo)) (last : Nat) : Array CpInfo := ⟨poolList es last⟩
def fileOf (pool : Array CpInfo) (this : Nat) (attrs : Array Attribute := #[]) (ms : Array MethodInfo := #[]) (fl : Nat := 33) (sup : Nat := 0) (ifs : Array Nat := #[]) (fds : Array FieldInfo := #[]) : ClassFile where
  minorVersion := 0
  majorVersion := 65
  constantPool := pool
  accessFlags := fl
  thisClass := this
  superClass := sup
  interfaces := ifs
  fields := fds
  methods := ms
  attributes := attrs
def plain (name : String) (sup : Option ClassId) : Class where
  name := name
  kind := .ordinary
  loader := none
  accessFlags := 33
  super := sup
  interfaces := #[]
  cf := none
  fields := #[]
  methods := #[]
  instanceTypes := #[]
  staticTypes := #[]
  resolved := #[]
  callSites := []
  init := .initialized
  statics := none
  mirror := none

def pool0 : Array CpInfo := pool [(5, u "<init>"), (0, u "()V"), (1, .class_ 10), (1, u "java/lang/Object")] 113

def k0m0 : Method := { name := "<init>", desc := "()V", sig := { parameters := [], returnType := none }, accessFlags := 1, code := none }
/-- java/lang/Object -/
def k0 : Class := { plain "java/lang/Object" none with
  accessFlags := 33
  interfaces := #[]
  cf := some (fileOf pool0 8 #[] #[{ accessFlags := 1, nameIndex := 5, descriptorIndex := 6, attributes := #[] }] 33 0 #[] #[])
  fields := #[]
  methods := #[k0m0]
  instanceTypes := #[]
  staticTypes := #[]
  resolved := Array.replicate 124 none
  statics := none }

def pool1 : Array CpInfo := pool [(2, .class_ 4), (1, u "java/lang/Object"), (0, u "<init>"), (0, u "()V"), (0, .fieldref 8 9), (0, .class_ 10), (0, .nameAndType 11 12), (0, u "com/example/office_to_office/officetooffice/segnatura/Anomalia"), (0, u "IRRICEVIBILE"), (0, u "Lcom/example/office_to_office/officetooffice/segnatura/Anomalia;"), (0, .fieldref 8 14), (0, .nameAndType 15 12), (0, u "VALIDAZIONE_FIRMA"), (0, .fieldref 8 17), (0, .nameAndType 18 12), (0, u "ANOMALIA_IMPRONTE"), (0, .fieldref 8 20), (0, .nameAndType 21 12), (0, u "DOCUMENTI_NON_LEGGIBILI"), (0, .fieldref 8 23), (0, .nameAndType 24 12), (0, u "FIRMA_DOCUMENTI"), (0, .fieldref 8 26), (0, .nameAndType 27 12), (0, u "MARCA_DOCUMENTI"), (0, .fieldref 8 29), (0, .nameAndType 30 12), (0, u "SIGILLO_DOCUMENTI"), (0, .fieldref 8 32), (0, .nameAndType 33 12), (0, u "IRRICEVIBILITA"), (0, .fieldref 8 35), (0, .nameAndType 36 12), (0, u "IDENTIFICATORE_NON_TROVATO"), (0, .integer 2147483647), (0, .methodref 39 40), (0, .class_ 41), (0, .nameAndType 42 43), (0, u "com/example/office_to_office/officetooffice/segnatura/AnomaliaInAnswerToInoltroPinLaw"), (0, u "pick"), (0, u "(I)Lcom/example/office_to_office/officetooffice/segnatura/Anomalia;"), (0, .methodref 8 45), (0, .nameAndType 46 47), (0, u "inAnswerToInoltro"), (0, u "()Z"), (0, .methodref 8 49), (0, .nameAndType 50 47), (0, u "inConferma"), (3, u "law"), (0, u "(I)Z")] 2

def k1m0 : Method := { name := "<init>", desc := "()V", sig := { parameters := [], returnType := none }, accessFlags := 2, code := none }
def k1c1 : Code := { maxStack := 2, maxLocals := 1, code := method_2_code, exceptionTable := #[], attributes := #[] }
def k1m1 : Method := { name := "pick", desc := "(I)Lcom/example/office_to_office/officetooffice/segnatura/Anomalia;", sig := { parameters := [.int], returnType := some (.object "com/example/office_to_office/officetooffice/segnatura/Anomalia") }, accessFlags := 10, code := some k1c1 }
def k1c2 : Code := { maxStack := 2, maxLocals := 5, code := code, exceptionTable := #[], attributes := #[] }
def k1m2 : Method := { name := "law", desc := "(I)Z", sig := { parameters := [.int], returnType := some .boolean }, accessFlags := 9, code := some k1c2 }
/-- com/example/office_to_office/officetooffice/segnatura/AnomaliaInAnswerToInoltroPinLaw -/
def k1 : Class := { plain "com/example/office_to_office/officetooffice/segnatura/AnomaliaInAnswerToInoltroPinLaw" (some 0) with
  accessFlags := 49
  interfaces := #[]
  cf := some (fileOf pool1 39 #[] #[{ accessFlags := 2, nameIndex := 5, descriptorIndex := 6, attributes := #[] }, { accessFlags := 10, nameIndex := 42, descriptorIndex := 43, attributes := #[] }, { accessFlags := 9, nameIndex := 54, descriptorIndex := 55, attributes := #[] }] 49 2 #[] #[])
  fields := #[]
  methods := #[k1m0, k1m1, k1m2]
  instanceTypes := #[]
  staticTypes := #[]
  resolved := Array.replicate 58 none
  statics := none }

def pool2 : Array CpInfo := pool [(1, .class_ 2), (0, u "java/lang/constant/Constable"), (0, .class_ 4), (0, u "java/lang/Object")] 6

/-- java/lang/constant/Constable -/
def k2 : Class := { plain "java/lang/constant/Constable" (some 0) with
  accessFlags := 1537
  interfaces := #[]
  cf := some (fileOf pool2 1 #[] #[] 1537 3 #[] #[])
  fields := #[]
  methods := #[]
  instanceTypes := #[]
  staticTypes := #[]
  resolved := Array.replicate 11 none
  statics := none }

def pool3 : Array CpInfo := pool [(1, .class_ 2), (0, u "java/lang/Comparable"), (0, .class_ 4), (0, u "java/lang/Object")] 7

/-- java/lang/Comparable -/
def k3 : Class := { plain "java/lang/Comparable" (some 0) with
  accessFlags := 1537
  interfaces := #[]
  cf := some (fileOf pool3 1 #[] #[] 1537 3 #[] #[])
  fields := #[]
  methods := #[]
  instanceTypes := #[]
  staticTypes := #[]
  resolved := Array.replicate 12 none
  statics := none }

def pool4 : Array CpInfo := pool [(1, .class_ 2), (0, u "java/io/Serializable"), (0, .class_ 4), (0, u "java/lang/Object")] 2

/-- java/io/Serializable -/
def k4 : Class := { plain "java/io/Serializable" (some 0) with
  accessFlags := 1537
  interfaces := #[]
  cf := some (fileOf pool4 1 #[] #[] 1537 3 #[] #[])
  fields := #[]
  methods := #[]
  instanceTypes := #[]
  staticTypes := #[]
  resolved := Array.replicate 7 none
  statics := none }

def pool5 : Array CpInfo := pool [(2, .class_ 4), (1, u "java/lang/Enum"), (0, u "name"), (0, u "Ljava/lang/String;"), (2, u "ordinal"), (0, u "I"), (1, .class_ 14), (1, u "java/lang/Object"), (4, u "hash"), (86, .class_ 108), (1, u "java/lang/Enum$EnumDesc"), (2, .class_ 112), (0, u "java/lang/constant/Constable"), (0, .class_ 114), (0, u "java/lang/Comparable"), (0, .class_ 116), (0, u "java/io/Serializable")] 87

/-- java/lang/Enum -/
def k5 : Class := { plain "java/lang/Enum" (some 0) with
  accessFlags := 1057
  interfaces := #[2, 3, 4]
  cf := some (fileOf pool5 2 #[.nestMembers #[106]] #[] 1057 12 #[111, 113, 115] #[{ accessFlags := 18, nameIndex := 5, descriptorIndex := 6, attributes := #[] }, { accessFlags := 18, nameIndex := 9, descriptorIndex := 10, attributes := #[] }, { accessFlags := 2, nameIndex := 19, descriptorIndex := 10, attributes := #[] }])
  fields := #[{ name := "name", type := (.object "java/lang/String"), accessFlags := 18, slot := 0, constantValue := 0 }, { name := "ordinal", type := .int, accessFlags := 18, slot := 1, constantValue := 0 }, { name := "hash", type := .int, accessFlags := 2, slot := 2, constantValue := 0 }]
  methods := #[]
  instanceTypes := #[(.object "java/lang/String"), .int, .int]
  staticTypes := #[]
  resolved := Array.replicate 204 none
  statics := none }

def pool6 : Array CpInfo := pool [(1, .class_ 2), (0, u "com/example/office_to_office/officetooffice/segnatura/Anomalia"), (2, u "IRRICEVIBILE"), (0, u "Lcom/example/office_to_office/officetooffice/segnatura/Anomalia;"), (2, u "VALIDAZIONE_FIRMA"), (2, u "ANOMALIA_IMPRONTE"), (2, u "DOCUMENTI_NON_LEGGIBILI"), (2, u "FIRMA_DOCUMENTI"), (2, u "MARCA_DOCUMENTI"), (2, u "SIGILLO_DOCUMENTI"), (2, u "IRRICEVIBILITA"), (2, u "IDENTIFICATORE_NON_TROVATO"), (2, u "$VALUES"), (0, u "[Lcom/example/office_to_office/officetooffice/segnatura/Anomalia;"), (6, .class_ 43), (1, u "java/lang/Enum"), (8, u "value"), (0, u "Ljava/lang/String;"), (0, .fieldref 1 55), (0, .nameAndType 56 57), (0, u "carrier"), (0, u "Lcom/example/office_to_office/officetooffice/segnatura/Anomalia$Carrier;"), (0, .fieldref 59 60), (0, .class_ 61), (0, .nameAndType 62 57), (0, u "com/example/office_to_office/officetooffice/segnatura/Anomalia$Carrier"), (0, u "INOLTRO"), (0, .fieldref 59 64), (0, .nameAndType 65 57), (0, u "CONFERMA"), (84, u "inAnswerToInoltro"), (0, u "()Z"), (1, u "inConferma")] 34

def k6c0 : Code := { maxStack := 2, maxLocals := 1, code := prog_20_method_5_code, exceptionTable := #[], attributes := #[] }
def k6m0 : Method := { name := "inAnswerToInoltro", desc := "()Z", sig := { parameters := [], returnType := some .boolean }, accessFlags := 1, code := some k6c0 }
def k6c1 : Code := { maxStack := 2, maxLocals := 1, code := prog_20_method_6_code, exceptionTable := #[], attributes := #[] }
def k6m1 : Method := { name := "inConferma", desc := "()Z", sig := { parameters := [], returnType := some .boolean }, accessFlags := 1, code := some k6c1 }
/-- com/example/office_to_office/officetooffice/segnatura/Anomalia -/
def k6 : Class := { plain "com/example/office_to_office/officetooffice/segnatura/Anomalia" (some 5) with
  accessFlags := 16433
  interfaces := #[]
  cf := some (fileOf pool6 1 #[.nestMembers #[59]] #[{ accessFlags := 1, nameIndex := 150, descriptorIndex := 151, attributes := #[] }, { accessFlags := 1, nameIndex := 153, descriptorIndex := 151, attributes := #[] }] 16433 41 #[] #[{ accessFlags := 16409, nameIndex := 5, descriptorIndex := 6, attributes := #[] }, { accessFlags := 16409, nameIndex := 9, descriptorIndex := 6, attributes := #[] }, { accessFlags := 16409, nameIndex := 12, descriptorIndex := 6, attributes := #[] }, { accessFlags := 16409, nameIndex := 15, descriptorIndex := 6, attributes := #[] }, { accessFlags := 16409, nameIndex := 18, descriptorIndex := 6, attributes := #[] }, { accessFlags := 16409, nameIndex := 21, descriptorIndex := 6, attributes := #[] }, { accessFlags := 16409, nameIndex := 24, descriptorIndex := 6, attributes := #[] }, { accessFlags := 16409, nameIndex := 27, descriptorIndex := 6, attributes := #[] }, { accessFlags := 16409, nameIndex := 30, descriptorIndex := 6, attributes := #[] }, { accessFlags := 18, nameIndex := 52, descriptorIndex := 53, attributes := #[] }, { accessFlags := 18, nameIndex := 56, descriptorIndex := 57, attributes := #[] }, { accessFlags := 4122, nameIndex := 33, descriptorIndex := 34, attributes := #[] }])
  fields := #[{ name := "IRRICEVIBILE", type := (.object "com/example/office_to_office/officetooffice/segnatura/Anomalia"), accessFlags := 16409, slot := 0, constantValue := 0 }, { name := "VALIDAZIONE_FIRMA", type := (.object "com/example/office_to_office/officetooffice/segnatura/Anomalia"), accessFlags := 16409, slot := 1, constantValue := 0 }, { name := "ANOMALIA_IMPRONTE", type := (.object "com/example/office_to_office/officetooffice/segnatura/Anomalia"), accessFlags := 16409, slot := 2, constantValue := 0 }, { name := "DOCUMENTI_NON_LEGGIBILI", type := (.object "com/example/office_to_office/officetooffice/segnatura/Anomalia"), accessFlags := 16409, slot := 3, constantValue := 0 }, { name := "FIRMA_DOCUMENTI", type := (.object "com/example/office_to_office/officetooffice/segnatura/Anomalia"), accessFlags := 16409, slot := 4, constantValue := 0 }, { name := "MARCA_DOCUMENTI", type := (.object "com/example/office_to_office/officetooffice/segnatura/Anomalia"), accessFlags := 16409, slot := 5, constantValue := 0 }, { name := "SIGILLO_DOCUMENTI", type := (.object "com/example/office_to_office/officetooffice/segnatura/Anomalia"), accessFlags := 16409, slot := 6, constantValue := 0 }, { name := "IRRICEVIBILITA", type := (.object "com/example/office_to_office/officetooffice/segnatura/Anomalia"), accessFlags := 16409, slot := 7, constantValue := 0 }, { name := "IDENTIFICATORE_NON_TROVATO", type := (.object "com/example/office_to_office/officetooffice/segnatura/Anomalia"), accessFlags := 16409, slot := 8, constantValue := 0 }, { name := "value", type := (.object "java/lang/String"), accessFlags := 18, slot := 3, constantValue := 0 }, { name := "carrier", type := (.object "com/example/office_to_office/officetooffice/segnatura/Anomalia$Carrier"), accessFlags := 18, slot := 4, constantValue := 0 }, { name := "$VALUES", type := (.array (.object "com/example/office_to_office/officetooffice/segnatura/Anomalia")), accessFlags := 4122, slot := 9, constantValue := 0 }]
  methods := #[k6m0, k6m1]
  instanceTypes := #[(.object "java/lang/String"), .int, .int, (.object "java/lang/String"), (.object "com/example/office_to_office/officetooffice/segnatura/Anomalia$Carrier")]
  staticTypes := #[(.object "com/example/office_to_office/officetooffice/segnatura/Anomalia"), (.object "com/example/office_to_office/officetooffice/segnatura/Anomalia"), (.object "com/example/office_to_office/officetooffice/segnatura/Anomalia"), (.object "com/example/office_to_office/officetooffice/segnatura/Anomalia"), (.object "com/example/office_to_office/officetooffice/segnatura/Anomalia"), (.object "com/example/office_to_office/officetooffice/segnatura/Anomalia"), (.object "com/example/office_to_office/officetooffice/segnatura/Anomalia"), (.object "com/example/office_to_office/officetooffice/segnatura/Anomalia"), (.object "com/example/office_to_office/officetooffice/segnatura/Anomalia"), (.array (.object "com/example/office_to_office/officetooffice/segnatura/Anomalia"))]
  resolved := Array.replicate 188 none
  statics := some 0 }

def pool7 : Array CpInfo := pool [(1, .class_ 2), (0, u "com/example/office_to_office/officetooffice/segnatura/Anomalia$Carrier"), (2, u "INOLTRO"), (0, u "Lcom/example/office_to_office/officetooffice/segnatura/Anomalia$Carrier;"), (2, u "CONFERMA"), (2, u "ANNULMENT"), (2, u "$VALUES"), (0, u "[Lcom/example/office_to_office/officetooffice/segnatura/Anomalia$Carrier;"), (6, .class_ 25), (1, u "java/lang/Enum"), (26, .class_ 53), (0, u "com/example/office_to_office/officetooffice/segnatura/Anomalia")] 2

/-- com/example/office_to_office/officetooffice/segnatura/Anomalia$Carrier -/
def k7 : Class := { plain "com/example/office_to_office/officetooffice/segnatura/Anomalia$Carrier" (some 5) with
  accessFlags := 16432
  interfaces := #[]
  cf := some (fileOf pool7 1 #[.nestHost 52] #[] 16432 23 #[] #[{ accessFlags := 16409, nameIndex := 5, descriptorIndex := 6, attributes := #[] }, { accessFlags := 16409, nameIndex := 9, descriptorIndex := 6, attributes := #[] }, { accessFlags := 16409, nameIndex := 12, descriptorIndex := 6, attributes := #[] }, { accessFlags := 4122, nameIndex := 15, descriptorIndex := 16, attributes := #[] }])
  fields := #[{ name := "INOLTRO", type := (.object "com/example/office_to_office/officetooffice/segnatura/Anomalia$Carrier"), accessFlags := 16409, slot := 0, constantValue := 0 }, { name := "CONFERMA", type := (.object "com/example/office_to_office/officetooffice/segnatura/Anomalia$Carrier"), accessFlags := 16409, slot := 1, constantValue := 0 }, { name := "ANNULMENT", type := (.object "com/example/office_to_office/officetooffice/segnatura/Anomalia$Carrier"), accessFlags := 16409, slot := 2, constantValue := 0 }, { name := "$VALUES", type := (.array (.object "com/example/office_to_office/officetooffice/segnatura/Anomalia$Carrier")), accessFlags := 4122, slot := 3, constantValue := 0 }]
  methods := #[]
  instanceTypes := #[(.object "java/lang/String"), .int, .int]
  staticTypes := #[(.object "com/example/office_to_office/officetooffice/segnatura/Anomalia$Carrier"), (.object "com/example/office_to_office/officetooffice/segnatura/Anomalia$Carrier"), (.object "com/example/office_to_office/officetooffice/segnatura/Anomalia$Carrier"), (.array (.object "com/example/office_to_office/officetooffice/segnatura/Anomalia$Carrier"))]
  resolved := Array.replicate 56 none
  statics := some 1 }

def pool8 : Array CpInfo := pool [(1, u "java/lang/Cloneable"), (0, .class_ 1), (0, u "java/lang/Object"), (0, .class_ 3)] 3

/-- java/lang/Cloneable -/
def k8 : Class := { plain "java/lang/Cloneable" (some 0) with
  accessFlags := 1537
  interfaces := #[]
  cf := some (fileOf pool8 2 #[] #[] 1537 4 #[] #[])
  fields := #[]
  methods := #[]
  instanceTypes := #[]
  staticTypes := #[]
  resolved := Array.replicate 8 none
  statics := none }

/-- the primitive byte -/
def k9 : Class := { plain "byte" none with kind := .primitive 'B', accessFlags := 0x411 }
/-- [B -/
def k10 : Class := { plain "[B" (some 0) with kind := .array 9 .byte, interfaces := #[8, 4], accessFlags := 1041 }

/-- the primitive int -/
def k11 : Class := { plain "int" none with kind := .primitive 'I', accessFlags := 0x411 }
/-- [I -/
def k12 : Class := { plain "[I" (some 0) with kind := .array 11 .int, interfaces := #[8, 4], accessFlags := 1041 }

def heap : Heap := #[{ cls := 6, slots := #[.ref 5, .ref 6, .ref 7, .ref 8, .ref 9, .ref 10, .ref 11, .ref 12, .ref 13, .null], vm := .statics 6 },
  { cls := 7, slots := #[.ref 2, .ref 3, .ref 4, .null], vm := .statics 7 },
  { cls := 7, slots := #[.null, .int 0, .int 0], vm := .none },
  { cls := 7, slots := #[.null, .int 1, .int 0], vm := .none },
  { cls := 7, slots := #[.null, .int 2, .int 0], vm := .none },
  { cls := 6, slots := #[.null, .int 0, .int 0, .null, .ref 3], vm := .none },
  { cls := 6, slots := #[.null, .int 1, .int 0, .null, .ref 2], vm := .none },
  { cls := 6, slots := #[.null, .int 2, .int 0, .null, .ref 2], vm := .none },
  { cls := 6, slots := #[.null, .int 3, .int 0, .null, .ref 3], vm := .none },
  { cls := 6, slots := #[.null, .int 4, .int 0, .null, .ref 3], vm := .none },
  { cls := 6, slots := #[.null, .int 5, .int 0, .null, .ref 3], vm := .none },
  { cls := 6, slots := #[.null, .int 6, .int 0, .null, .ref 3], vm := .none },
  { cls := 6, slots := #[.null, .int 7, .int 0, .null, .ref 4], vm := .none },
  { cls := 6, slots := #[.null, .int 8, .int 0, .null, .ref 4], vm := .none }]
def classes : Array Class := #[k0, k1, k2, k3, k4, k5, k6, k7, k8, k9, k10, k11, k12]
def interned : List (Array UInt16 × Addr) := []
def slotsUsed : Nat := 68
def theMethod : MethodId := ⟨1, 2⟩
def args0 : Array Value := #[.int 5]
def aboutOver (below : List Frame) : State where
  vm := { classes := classes, interned := interned.toArray }
  heap := heap
  slotsUsed := slotsUsed
  threads := #[{ frames := .invoking theMethod args0 :: below }]
def below0 : List Frame := [.native { method := ⟨0, 0⟩, args := #[] }]
def about1 : State := aboutOver below0
def p0 : Program := .bare "" "" ""
def e0 : Env := launch0.env 0 0 0
theorem w_frames : about1.frames = Frame.invoking theMethod args0 :: below0 := rfl
set_option maxRecDepth 65536 in
theorem w_args : argsFit about1.vm theMethod args0 = true := by decide +kernel
set_option maxRecDepth 65536 in
theorem w_heap : heapFits about1 = true := by decide +kernel
set_option maxRecDepth 65536 in
theorem w_runnable : about1.curStatus? = some .runnable := by decide +kernel
set_option maxRecDepth 65536 in
theorem w_alone : about1.alone = true := by decide +kernel
set_option maxRecDepth 65536 in
theorem w_named : about1.methodNamed? x = some theMethod := by decide +kernel
set_option maxRecDepth 65536 in
theorem w_hears : about1.hears theMethod below0 = true := by decide +kernel
set_option maxRecDepth 65536 in
theorem w_ripe : about1.ripe theMethod args0 below0 = true := by decide +kernel
theorem w_running : about1.status = .running := rfl
set_option maxRecDepth 65536 in
theorem w_room : about1.hasRoom e0.platform room_1 = true :=
  launch0.hasRoom_least _ room_1 (by decide +kernel) (by decide +kernel) (by decide +kernel) (by decide +kernel) (by decide +kernel) (by decide +kernel)
theorem allAtoms_all (ts : List Jvm.Cond) (a : Array Jvm.Value) (st : Jvm.State) : (allAtoms ts).before a st = ts.all (fun c => c.before a st) := by
  induction ts with
  | nil => rfl
  | cons c t ih =>
    show (Jvm.Cond.and c (allAtoms t)).before a st = _
    rw [Jvm.Cond.before_and, ih, List.all_cons]
def words1 : List Jvm.Cond := Jvm.Cond.code x code maxLocals ret :: tables_1
/-- a 'code' word, met by the world's own term for the bytes: nothing is compared byte by byte -/
theorem code_word {y : MethodName} {bytes : ByteArray} {mx : Nat} {rt : Option FieldType} {a : Array Value} {s : State} {m : MethodId} {meth : Method} {c : Code} (h1 : s.methodNamed? y = some m) (h2 : s.vm.method? m = some meth) (h3 : meth.code = some c) (h4 : c.code = bytes)
    (h5 : (c.maxLocals == mx && c.exceptionTable.isEmpty && decide (c.maxStack ≤ mostOperands) && decide (meth.sig.returnType = rt) && !meth.locks && decide (parseMethodDescriptor y.desc = some meth.sig)) = true) : (Jvm.Cond.code y bytes mx rt).before a s = true := by
  simp only [Bool.and_eq_true, beq_iff_eq, Bool.not_eq_true', decide_eq_true_eq] at h5
  obtain ⟨⟨⟨⟨⟨g1, g2⟩, g3⟩, g4⟩, g5⟩, g6⟩ := h5
  simp [Cond.before, Cond.holds, Cond.value, h1, h2, h3, h4, g1, g2, g3, g4, g5, g6]
def isCode : Jvm.Cond → Bool
  | .code _ _ _ _ => true
  | _ => false
theorem all_split {L : List Jvm.Cond} {P : Jvm.Cond → Bool} (h1 : L.all (fun c => isCode c || P c) = true) (h2 : ∀ c ∈ L.filter isCode, P c = true) : L.all P = true := by
  refine List.all_eq_true.mpr fun c hc => ?_
  have h := List.all_eq_true.mp h1 c hc
  rcases Bool.eq_false_or_eq_true (isCode c) with hi | hi
  · exact h2 c (List.mem_filter.mpr ⟨hc, hi⟩)
  · simpa [hi] using h
set_option maxRecDepth 65536 in
theorem w_c0 : (Jvm.Cond.code x code maxLocals ret).before args0 about1 = true := code_word (m := ⟨1, 2⟩) (meth := k1m2) (c := k1c2) (by decide +kernel) rfl rfl rfl (by decide +kernel)
set_option maxRecDepth 65536 in
theorem w_c1 : (Jvm.Cond.code ({ cls := "com/example/office_to_office/officetooffice/segnatura/AnomaliaInAnswerToInoltroPinLaw", name := "pick", desc := "(I)Lcom/example/office_to_office/officetooffice/segnatura/Anomalia;" } : Jvm.MethodName) method_2_code (1 : Nat) (Option.some (Jvm.ClassFile.FieldType.object "com/example/office_to_office/officetooffice/segnatura/Anomalia"))).before args0 about1 = true := code_word (m := ⟨1, 1⟩) (meth := k1m1) (c := k1c1) (by decide +kernel) rfl rfl rfl (by decide +kernel)
set_option maxRecDepth 65536 in
theorem w_c2 : (Jvm.Cond.code ({ cls := "com/example/office_to_office/officetooffice/segnatura/Anomalia", name := "inAnswerToInoltro", desc := "()Z" } : Jvm.MethodName) prog_20_method_5_code (1 : Nat) (Option.some Jvm.ClassFile.FieldType.boolean)).before args0 about1 = true := code_word (m := ⟨6, 0⟩) (meth := k6m0) (c := k6c0) (by decide +kernel) rfl rfl rfl (by decide +kernel)
set_option maxRecDepth 65536 in
theorem w_c3 : (Jvm.Cond.code ({ cls := "com/example/office_to_office/officetooffice/segnatura/Anomalia", name := "inConferma", desc := "()Z" } : Jvm.MethodName) prog_20_method_6_code (1 : Nat) (Option.some Jvm.ClassFile.FieldType.boolean)).before args0 about1 = true := code_word (m := ⟨6, 1⟩) (meth := k6m1) (c := k6c1) (by decide +kernel) rfl rfl rfl (by decide +kernel)
def codes1 : List Jvm.Cond := [Jvm.Cond.code x code maxLocals ret, Jvm.Cond.code ({ cls := "com/example/office_to_office/officetooffice/segnatura/AnomaliaInAnswerToInoltroPinLaw", name := "pick", desc := "(I)Lcom/example/office_to_office/officetooffice/segnatura/Anomalia;" } : Jvm.MethodName) method_2_code (1 : Nat) (Option.some (Jvm.ClassFile.FieldType.object "com/example/office_to_office/officetooffice/segnatura/Anomalia")), Jvm.Cond.code ({ cls := "com/example/office_to_office/officetooffice/segnatura/Anomalia", name := "inAnswerToInoltro", desc := "()Z" } : Jvm.MethodName) prog_20_method_5_code (1 : Nat) (Option.some Jvm.ClassFile.FieldType.boolean), Jvm.Cond.code ({ cls := "com/example/office_to_office/officetooffice/segnatura/Anomalia", name := "inConferma", desc := "()Z" } : Jvm.MethodName) prog_20_method_6_code (1 : Nat) (Option.some Jvm.ClassFile.FieldType.boolean)]
set_option maxRecDepth 65536 in
theorem codes_eq : words1.filter isCode = codes1 := rfl
theorem w_codes : ∀ c ∈ words1.filter isCode, c.before args0 about1 = true := by
  rw [codes_eq]
  intro c hc
  simp only [codes1, List.mem_cons, List.not_mem_nil, or_false] at hc
  rcases hc with rfl | rfl | rfl | rfl
  · exact w_c0
  · exact w_c1
  · exact w_c2
  · exact w_c3
set_option maxRecDepth 65536 in
theorem w_t1 : (words1.take 24).all (fun c => isCode c || c.before args0 about1) = true := by decide +kernel
set_option maxRecDepth 65536 in
theorem w_t2 : (words1.drop 24).all (fun c => isCode c || c.before args0 about1) = true := by decide +kernel
theorem w_tables : (allAtoms (Jvm.Cond.code x code maxLocals ret :: tables_1)).before args0 about1 = true := by
  rw [allAtoms_all]
  show words1.all (fun c => c.before args0 about1) = true
  refine all_split ?_ w_codes
  rw [← List.take_append_drop 24 words1, List.all_append, w_t1, w_t2]
  rfl
set_option maxRecDepth 65536 in
theorem w_case : (Jvm.Cond.and given_1 narrow_1).before args0 about1 = true := by decide +kernel
theorem w_applies : (headSpec (Jvm.Cond.code x code maxLocals ret :: tables_1) room_1).applies x e0.platform about1 = true :=
  (Spec.applies_iff w_frames).mpr ⟨w_running, w_runnable, w_alone, w_named, w_hears, w_ripe, w_room, w_tables⟩
theorem atStart : AtStart classFile x code maxLocals ret World_1 tables_1 room_1 Calls_1 rest_1 Pre_1 launch0 p0 e0 about1 theMethod args0 below0 :=
  ⟨lists_1, trivial, launch0.admits_env _ _ _, launch0.least_env, fairChoices_fair.cas, fairChoices_fair.clock, w_frames, w_args, w_heap, w_applies, trivial, trivial, w_case⟩
end start1
theorem witness_1 : WitnessClaimed_1 := ⟨start1.p0, start1.e0, start1.about1, start1.theMethod, start1.args0, start1.below0, start1.atStart⟩
end Jvm.Pilot.@@N@@
